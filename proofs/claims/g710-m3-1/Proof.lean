import JvmDerived
import JvmDerived.Pilot.@@N@@Statement
import JvmDerived.Pilot.@@N@@Code
set_option linter.unusedVariables false
set_option linter.unusedSimpArgs false
@@BLOCK:NumsL.lean.txt@@
namespace Jvm.OwnW
open Sem ClassFile Op Lib Jvm.Stand Jvm.Free Jvm.LawKit Jvm.RoadKit
section Own
variable {p : Program} {l : Launch} {e : Env} {R : Room} {s : State} {m : MethodId} {args : Array Value} {below : List Frame} {meth : Method} {c : Code} {T : State} {locs : List Loc} {cells slots : Nat} {K N : Nat} {Q : Option Value → Heap → List Loc → Prop}
/-- from U the run comes to the method's end, and what it leaves there is Q -/
def OwnEnds (tb : Tables) (e : Env) (below : List Frame) (s : State) (K N : Nat) (Q : Option Value → Heap → List Loc → Prop) (U : State) : Prop :=
  ∃ s₂ o, Steps tb e below U s₂ ∧ s₂.status = .running ∧ Ended s₂ below o ∧ ∃ v L, o = .returned v ∧ Q v s₂.heap L ∧ FrameEnd s o s₂ L K N
theorem ogo {tb : Tables} {U U' : State} (st : ∀ t, Steps tb e below U' t → Steps tb e below U t) (h : OwnEnds tb e below s K N Q U') : OwnEnds tb e below s K N Q U := by
  obtain ⟨s₂, o, h1, h2⟩ := h
  exact ⟨s₂, o, st _ h1, h2⟩
theorem endR (X : Stand p l e R s m args below meth c T locs cells slots) (hx : p.tables.exec = Jvm.exec) (hlk : meth.locks = false) {pc : Nat} {Ls : Array Slot} {w : Value} {t : FieldType} {i : Instr} {rest : List Value} (hret : meth.sig.returnType = some t) (hn : narrow t w = w)
    (hi : (i = .ireturn ∧ (t = .int ∨ t = .boolean ∨ t = .byte ∨ t = .char ∨ t = .short) ∧ ∃ z, w = .int z) ∨ (i = .lreturn ∧ t = .long ∧ ∃ z, w = .long z) ∨ (i = .dreturn ∧ t = .double ∧ ∃ z, w = .double z) ∨ (i = .freturn ∧ t = .float ∧ ∃ z, w = .float z) ∨ (i = .areturn ∧ t.isReference = true ∧ w.isRef = true))
    (hd : decode c.code pc = .ok (i, 1)) (hK : cells ≤ K) (hN : slots ≤ N) (hQ : Q (some w) T.heap locs) : OwnEnds p.tables e below s K N Q (T.setTop (mkF m pc Ls (w :: rest))) := by
  obtain ⟨fs, hr, hrun, hended, hW, hsame⟩ := X.leave (v := some w) (fun h => by rw [hret] at h; cases h) hlk
  exact ⟨_, _, retOut X hx hret hn hi hd hr, hrun, hended, _, _, rfl, hQ, ⟨_, rfl⟩, hW, hsame.mono hK hN⟩
theorem endI (X : Stand p l e R s m args below meth c T locs cells slots) (hx : p.tables.exec = Jvm.exec) (hlk : meth.locks = false) {pc : Nat} {Ls : Array Slot} {z : Int32} {rest : List Value} (hret : meth.sig.returnType = some .int)
    (hd : decode c.code pc = .ok (.ireturn, 1)) (hK : cells ≤ K) (hN : slots ≤ N) (hQ : Q (some (.int z)) T.heap locs) : OwnEnds p.tables e below s K N Q (T.setTop (mkF m pc Ls (.int z :: rest))) :=
  endR X hx hlk hret rfl (Or.inl ⟨rfl, Or.inl rfl, z, rfl⟩) hd hK hN hQ
theorem endZ (X : Stand p l e R s m args below meth c T locs cells slots) (hx : p.tables.exec = Jvm.exec) (hlk : meth.locks = false) {pc : Nat} {Ls : Array Slot} {z : Int32} {rest : List Value} (hret : meth.sig.returnType = some .boolean) (hn : narrow .boolean (.int z) = .int z)
    (hd : decode c.code pc = .ok (.ireturn, 1)) (hK : cells ≤ K) (hN : slots ≤ N) (hQ : Q (some (.int z)) T.heap locs) : OwnEnds p.tables e below s K N Q (T.setTop (mkF m pc Ls (.int z :: rest))) :=
  endR X hx hlk hret hn (Or.inl ⟨rfl, Or.inr (Or.inl rfl), z, rfl⟩) hd hK hN hQ
theorem endJ (X : Stand p l e R s m args below meth c T locs cells slots) (hx : p.tables.exec = Jvm.exec) (hlk : meth.locks = false) {pc : Nat} {Ls : Array Slot} {z : Int64} {rest : List Value} (hret : meth.sig.returnType = some .long)
    (hd : decode c.code pc = .ok (.lreturn, 1)) (hK : cells ≤ K) (hN : slots ≤ N) (hQ : Q (some (.long z)) T.heap locs) : OwnEnds p.tables e below s K N Q (T.setTop (mkF m pc Ls (.long z :: rest))) :=
  endR X hx hlk hret rfl (Or.inr (Or.inl ⟨rfl, rfl, z, rfl⟩)) hd hK hN hQ
theorem endA (X : Stand p l e R s m args below meth c T locs cells slots) (hx : p.tables.exec = Jvm.exec) (hlk : meth.locks = false) {pc : Nat} {Ls : Array Slot} {w : Value} {t : FieldType} {rest : List Value} (hret : meth.sig.returnType = some t) (ht : t.isReference = true) (hw : w.isRef = true)
    (hd : decode c.code pc = .ok (.areturn, 1)) (hK : cells ≤ K) (hN : slots ≤ N) (hQ : Q (some w) T.heap locs) : OwnEnds p.tables e below s K N Q (T.setTop (mkF m pc Ls (w :: rest))) :=
  endR X hx hlk hret (by rcases ref_cases hw with rfl | ⟨a, rfl⟩ <;> cases t <;> simp_all [narrow, FieldType.isReference]) (Or.inr (Or.inr (Or.inr (Or.inr ⟨rfl, ht, hw⟩)))) hd hK hN hQ
theorem endV (X : Stand p l e R s m args below meth c T locs cells slots) (hx : p.tables.exec = Jvm.exec) (hlk : meth.locks = false) {pc : Nat} {Ls : Array Slot} (hret : meth.sig.returnType = none)
    (hd : decode c.code pc = .ok (.return_, 1)) (hK : cells ≤ K) (hN : slots ≤ N) (hQ : Q none T.heap locs) : OwnEnds p.tables e below s K N Q (T.setTop (mkF m pc Ls [])) := by
  obtain ⟨fs, hr, hrun, hended, hW, hsame⟩ := X.leave (v := none) (fun _ => rfl) hlk
  exact ⟨_, _, X.returnOut hx hret hd hr, hrun, hended, _, _, rfl, hQ, ⟨_, rfl⟩, hW, hsame.mono hK hN⟩
end Own
end Jvm.OwnW
namespace Jvm.Pilot.@@N@@
open Jvm Jvm.ClassFile Sem Op Lib Jvm.Free Jvm.Stand Jvm.LawKit Jvm.RoadKit Jvm.OwnW Bundle Jvm.Pilot.@@N@@.Jvm.D
theorem own_cat {v : Value} (h : v.isRef = true) : v.category = 1 := by rcases ref_cases h with rfl | ⟨a, rfl⟩ <;> rfl
theorem own_ite {q : Prop} [Decidable q] {a b : Value} (ha : a.isRef = true) (hb : b.isRef = true) : (if q then a else b).isRef = true := by split <;> assumption
theorem own_fld {args : Array Value} {s : State} {t : Term} {C n d : String} {k : Int32} {a : Addr} (h : (Cond.eq (.field t C n d) (.int k)).value args s none s [] = some true) (ev : t.eval args s none [] s = some (.ref a)) : Fld s s.heap a C n d (.int k) := by
  obtain ⟨x, y, e1, e2, -, -⟩ := cmp_v (Or.inl h)
  have e3 : y = .int k := (Option.some.inj (e2.symm.trans (Term.int_eval k)))
  subst e3
  have e4 : s.fieldOf? a C n d = some x := by simpa [Term.eval, ev] using e1
  cases x <;> simp [Cond.value, e1, e2] at h
  subst h
  exact Fld.start e4
theorem own_narb (x : Int32) : nar .byte x.toInt8.toInt32 = x.toInt8.toInt32 := by simp [nar]
def Av (Z : State) (h : Heap) (a : Addr) (ty : FieldType) (z : Int32) (vs : List Value) (d : Value) : Prop := ∃ k, Arv Z h a k ty z vs d
theorem Av.ext {Z : State} {h h' : Heap} {a : Addr} {ty : FieldType} {z : Int32} {vs : List Value} {d : Value} (F : Av Z h a ty z vs d) (E : Ext h h') : Av Z h' a ty z vs d := by obtain ⟨k, F⟩ := F; exact ⟨k, F.ext E⟩
theorem Av.other {Z : State} {h h' : Heap} {a b : Addr} {ty : FieldType} {z : Int32} {vs : List Value} {d v : Value} {sl : Nat} (F : Av Z h a ty z vs d) (W : Wr h h' b sl v) (q : a ≠ b) : Av Z h' a ty z vs d := by obtain ⟨k, F⟩ := F; exact ⟨k, F.other W q⟩
theorem Av.keep {Z : State} {h h' : Heap} {a : Addr} {ty : FieldType} {z : Int32} {vs : List Value} {d : Value} {ws : List Addr} (F : Av Z h a ty z vs d) (K : Keep h h' ws) (q : a ∉ ws) : Av Z h' a ty z vs d := by obtain ⟨k, F⟩ := F; exact ⟨k, F.keep K q⟩
theorem Av.lt {Z : State} {h : Heap} {a : Addr} {ty : FieldType} {z : Int32} {vs : List Value} {d : Value} (F : Av Z h a ty z vs d) : a < h.size := by obtain ⟨k, F⟩ := F; exact F.lt
section OwnCold
variable {p : Program} {l : Launch} {e : Env} {R : Room} {s : State} {m : MethodId} {args : Array Value} {below : List Frame} {meth : Method} {c : Code} {T : State} {locs : List Loc} {cells slots : Nat} {K N : Nat} {Q : Option Value → Heap → List Loc → Prop}
def OwnEndsW (tb : Tables) (e : Env) (below : List Frame) (s : State) (K N : Nat) (Q : Option Value → Heap → List Loc → Prop) (U : State) : Prop :=
  ∃ s₂ o, Steps tb e below U s₂ ∧ s₂.status = .running ∧ Ended s₂ below o ∧ ∃ v L, o = .returned v ∧ Q v s₂.heap L ∧ ReturnedEndW s o s₂ L K N
theorem ogoW {tb : Tables} {U U' : State} (st : ∀ t, Steps tb e below U' t → Steps tb e below U t) (h : OwnEndsW tb e below s K N Q U') : OwnEndsW tb e below s K N Q U := by
  obtain ⟨s₂, o, h1, h2⟩ := h
  exact ⟨s₂, o, st _ h1, h2⟩
theorem endRW {vm₁ : Vm} {n : Nat} (X : Stand p l e R (s.setVm vm₁) m args below meth c T locs cells slots) (hS : s.Since vm₁ n) (hsn : n ≤ T.heap.size) (hx : p.tables.exec = Jvm.exec) (hlk : meth.locks = false) {pc : Nat} {Ls : Array Slot} {w : Value} {t : FieldType} {i : Instr} {rest : List Value} (hret : meth.sig.returnType = some t) (hn : narrow t w = w)
    (hi : (i = .ireturn ∧ (t = .int ∨ t = .boolean ∨ t = .byte ∨ t = .char ∨ t = .short) ∧ ∃ z, w = .int z) ∨ (i = .lreturn ∧ t = .long ∧ ∃ z, w = .long z) ∨ (i = .dreturn ∧ t = .double ∧ ∃ z, w = .double z) ∨ (i = .freturn ∧ t = .float ∧ ∃ z, w = .float z) ∨ (i = .areturn ∧ t.isReference = true ∧ w.isRef = true))
    (hd : decode c.code pc = .ok (i, 1)) (hK : cells ≤ K) (hN : slots ≤ N) (hQ : Q (some w) T.heap locs) : OwnEndsW p.tables e below s K N Q (T.setTop (mkF m pc Ls (w :: rest))) := by
  obtain ⟨fs, hr, hrun, hended, h1, h2, h3, h4⟩ := X.leaveW hS hsn (v := some w) (fun h => by rw [hret] at h; cases h) hlk
  exact ⟨_, _, retOut X hx hret hn hi hd hr, hrun, hended, _, _, rfl, hQ, h1, h2, h3, h4.mono hK hN⟩
theorem endZW {vm₁ : Vm} {n : Nat} (X : Stand p l e R (s.setVm vm₁) m args below meth c T locs cells slots) (hS : s.Since vm₁ n) (hsn : n ≤ T.heap.size) (hx : p.tables.exec = Jvm.exec) (hlk : meth.locks = false) {pc : Nat} {Ls : Array Slot} {z : Int32} {rest : List Value} (hret : meth.sig.returnType = some .boolean) (hn : narrow .boolean (.int z) = .int z)
    (hd : decode c.code pc = .ok (.ireturn, 1)) (hK : cells ≤ K) (hN : slots ≤ N) (hQ : Q (some (.int z)) T.heap locs) : OwnEndsW p.tables e below s K N Q (T.setTop (mkF m pc Ls (.int z :: rest))) :=
  endRW X hS hsn hx hlk hret hn (Or.inl ⟨rfl, Or.inr (Or.inl rfl), z, rfl⟩) hd hK hN hQ
theorem endAW {vm₁ : Vm} {n : Nat} (X : Stand p l e R (s.setVm vm₁) m args below meth c T locs cells slots) (hS : s.Since vm₁ n) (hsn : n ≤ T.heap.size) (hx : p.tables.exec = Jvm.exec) (hlk : meth.locks = false) {pc : Nat} {Ls : Array Slot} {w : Value} {t : FieldType} {rest : List Value} (hret : meth.sig.returnType = some t) (ht : t.isReference = true) (hw : w.isRef = true)
    (hd : decode c.code pc = .ok (.areturn, 1)) (hK : cells ≤ K) (hN : slots ≤ N) (hQ : Q (some w) T.heap locs) : OwnEndsW p.tables e below s K N Q (T.setTop (mkF m pc Ls (w :: rest))) :=
  endRW X hS hsn hx hlk hret (by rcases ref_cases hw with rfl | ⟨a, rfl⟩ <;> cases t <;> simp_all [narrow, FieldType.isReference]) (Or.inr (Or.inr (Or.inr (Or.inr ⟨rfl, ht, hw⟩)))) hd hK hN hQ
theorem own_since0 (s : State) : s.Since s.vm 0 := ⟨State.Warmed39.refl s, fun j p hj hp => absurd (Array.getElem?_eq_some_iff.mp hp).1 (Nat.not_lt.mpr hj)⟩
end OwnCold
theorem own_rng (x n : Int32) (hn : 0 < n.toInt) : 0 ≤ ((x &&& 2147483647) % n).toInt ∧ ((x &&& 2147483647) % n).toInt < n.toInt := by
  have e1 : (x &&& 2147483647).toInt = x.toInt % 2 ^ 31 := Jvm.Kit.i32_mask x 2147483647 (k := 31) (by decide) (by decide)
  have e2 := Jvm.Kit.i32_rem_nonneg (x := x &&& 2147483647) (y := n) (by omega)
  rw [e2]
  exact ⟨Int.emod_nonneg _ (by omega), Int.emod_lt_of_pos _ hn⟩
theorem own_case5 {k : Int32} (h : 0 ≤ k.toInt ∧ k.toInt < 5) : k = 0 ∨ k = 1 ∨ k = 2 ∨ k = 3 ∨ k = 4 := by
  rcases (by omega : k.toInt = 0 ∨ k.toInt = 1 ∨ k.toInt = 2 ∨ k.toInt = 3 ∨ k.toInt = 4) with q | q | q | q | q
  · exact Or.inl (Int32.toInt_inj.mp (q.trans (by decide)))
  · exact Or.inr (Or.inl (Int32.toInt_inj.mp (q.trans (by decide))))
  · exact Or.inr (Or.inr (Or.inl (Int32.toInt_inj.mp (q.trans (by decide)))))
  · exact Or.inr (Or.inr (Or.inr (Or.inl (Int32.toInt_inj.mp (q.trans (by decide))))))
  · exact Or.inr (Or.inr (Or.inr (Or.inr ((Int32.toInt_inj.mp (q.trans (by decide)))))))

theorem own_str {Z : State} {a0 : Array Value} (hw : ∀ d ∈ tables_1, d.before a0 Z = true) : ∀ a ∈ Bundle.stringAtoms, a.before a0 Z = true := by
  intro a ha
  simp only [Bundle.stringAtoms, List.mem_cons, List.not_mem_nil, or_false] at ha
  rcases ha with rfl | rfl | rfl | rfl | rfl | rfl | rfl
  · exact (hw _ (List.mem_of_getElem? (i := 7) rfl))
  · exact (hw _ (List.mem_of_getElem? (i := 8) rfl))
  · exact (hw _ (List.mem_of_getElem? (i := 1) rfl))
  · exact (hw _ (List.mem_of_getElem? (i := 9) rfl))
  · exact (hw _ (List.mem_of_getElem? (i := 10) rfl))
  · exact (hw _ (List.mem_of_getElem? (i := 11) rfl))
  · exact (hw _ (List.mem_of_getElem? (i := 12) rfl))
theorem d1_0 : decode prog_2_method_1_code 0 = .ok (.aload_n 0, 1) := by decide +kernel
theorem d1_1 : decode prog_2_method_1_code 1 = .ok (.invokespecial 1, 3) := by decide +kernel
theorem d1_4 : decode prog_2_method_1_code 4 = .ok (.aload_n 0, 1) := by decide +kernel
theorem d1_5 : decode prog_2_method_1_code 5 = .ok (.aload_n 1, 1) := by decide +kernel
theorem d1_6 : decode prog_2_method_1_code 6 = .ok (.putfield 7, 3) := by decide +kernel
theorem d1_9 : decode prog_2_method_1_code 9 = .ok (.aload_n 0, 1) := by decide +kernel
theorem d1_10 : decode prog_2_method_1_code 10 = .ok (.lload_n 2, 1) := by decide +kernel
theorem d1_11 : decode prog_2_method_1_code 11 = .ok (.putfield 13, 3) := by decide +kernel
theorem d1_14 : decode prog_2_method_1_code 14 = .ok (.aload_n 0, 1) := by decide +kernel
theorem d1_15 : decode prog_2_method_1_code 15 = .ok (.aload 4, 2) := by decide +kernel
theorem d1_17 : decode prog_2_method_1_code 17 = .ok (.putfield 17, 3) := by decide +kernel
theorem d1_20 : decode prog_2_method_1_code 20 = .ok (.aload_n 0, 1) := by decide +kernel
theorem d1_21 : decode prog_2_method_1_code 21 = .ok (.aload 5, 2) := by decide +kernel
theorem d1_23 : decode prog_2_method_1_code 23 = .ok (.putfield 21, 3) := by decide +kernel
theorem d1_26 : decode prog_2_method_1_code 26 = .ok (.return_, 1) := by decide +kernel
theorem pn_ClaimResult : plainName "com/example/once_guard/onceguard/ClaimResult" = true := by first | (simp [plainName, overriddenIn]; done) | decide +kernel
theorem ef_1 (m : MethodId) (x0 : Addr) (x1 : Addr) (x2 : Int64) (x3 : Addr) : entryFrame m #[(.ref x0), (.ref x1), (.long x2), (.ref x3), .null] 6 = mkF m 0 #[.val (.ref x0), .val (.ref x1), .val (.long x2), .second, .val (.ref x3), .val .null] [] := by first | (simp [entryFrame, mkF, argsToLocals, Value.category]; done) | rfl
def Q1 (Z : State) (a1 a2 : Addr) (q3 : Int64) (a4 : Addr) (h0 : Heap) (n0 : Nat) (v : Option Value) (h : Heap) (L : List Loc) : Prop := v = none ∧ Fr n0 L ∧ Keep h0 h [a1] ∧ Fld Z h a1 "com/example/once_guard/onceguard/ClaimResult" "state" "Lcom/example/once_guard/onceguard/ClaimResult$State;" (.ref a2) ∧ Fld Z h a1 "com/example/once_guard/onceguard/ClaimResult" "payloadDigest" "[B" (.ref a4)
set_option maxRecDepth 65536 in
set_option maxHeartbeats 40000000 in
theorem rm1 (l : Launch) (Z : State) (a0 : Array Value) (hw : ∀ d ∈ tables_1, d.before a0 Z = true) (ws : List Jvm.Cond) (a1 a2 : Addr) (q3 : Int64) (a4 : Addr) (h0 : Heap) (n0 : Nat) (Z0 : n0 ≤ h0.size) (OLD : Old Z n0 h0) (E_1 : Exa Z h0 a1 "com/example/once_guard/onceguard/ClaimResult") (F_1 : Fld Z h0 a1 "com/example/once_guard/onceguard/ClaimResult" "state" "Lcom/example/once_guard/onceguard/ClaimResult$State;" .null) (F_2 : Fld Z h0 a1 "com/example/once_guard/onceguard/ClaimResult" "fencingNumber" "J" (.long (0 : Int64))) (F_3 : Fld Z h0 a1 "com/example/once_guard/onceguard/ClaimResult" "payloadDigest" "[B" .null) (F_4 : Fld Z h0 a1 "com/example/once_guard/onceguard/ClaimResult" "outcome" "[B" .null) (g1 : n0 ≤ a1) :
    MetFree l (⟨"com/example/once_guard/onceguard/ClaimResult", "<init>", "(Lcom/example/once_guard/onceguard/ClaimResult$State;J[B[B)V"⟩ : MethodName) (head1 (Jvm.Cond.code (⟨"com/example/once_guard/onceguard/ClaimResult", "<init>", "(Lcom/example/once_guard/onceguard/ClaimResult$State;J[B[B)V"⟩ : MethodName) prog_2_method_1_code 6 none :: ws) ({ frames := 1, cells := 0, slots := 0, locals := 12 } : Room)) (fun a U => a = #[(.ref a1), (.ref a2), (.long q3), (.ref a4), .null] ∧ Z.Warmed39 U.vm ∧ U.heap = h0) (fun _ _ _ _ _ => True) (fun _ U o U' => ∃ v L, o = .returned v ∧ Q1 Z a1 a2 q3 a4 h0 n0 v U'.heap L ∧ FrameEnd U o U' L ({ frames := 1, cells := 0, slots := 0, locals := 12 } : Room).cells ({ frames := 1, cells := 0, slots := 0, locals := 12 } : Room).slots) := by
  refine MetFree.of_bodySF (plainFor_of_name pn_ClaimResult) hisR ?_
  intro p e s m args below meth c s₁ Bd hml0 hP hK
  obtain ⟨rfl, hZ, hh⟩ := hP
  have hx := Bd.exec
  have hby := Bd.bytes
  have hml : c.maxLocals = 6 := hml0
  have hown : s.vm.findClass "com/example/once_guard/onceguard/ClaimResult" = some m.cls := findClass_of_methodNamed Bd.named
  have hnm := (name_of_methodNamed Bd.named Bd.method).1
  have hlk : meth.locks = false := BodyLoose.notSynchronized Bd
  have hret := Bd.returns
  have X0 : Stand p l e ({ frames := 1, cells := 0, slots := 0, locals := 12 } : Room) s m #[(.ref a1), (.ref a2), (.long q3), (.ref a4), .null] below meth c s₁ [] 0 0 := Stand.of_body Bd
  have e0 : s₁.heap = h0 := by rw [← hh, Bd.state]; rfl
  have N0 := Fr.nil n0
  refine ogo (U' := s₁.setTop (mkF m 0 #[.val (.ref a1), .val (.ref a2), .val (.long q3), .second, .val (.ref a4), .val .null] [])) (Q := Q1 Z a1 a2 q3 a4 h0 n0) (K := ({ frames := 1, cells := 0, slots := 0, locals := 12 } : Room).cells) (N := ({ frames := 1, cells := 0, slots := 0, locals := 12 } : Room).slots) (fun t k => castTop (ef_1 m a1 a2 q3 a4) k) ?_
  show OwnEnds _ _ _ _ _ _ _ (s₁.setTop (mkF m 0 #[.val (.ref a1), .val (.ref a2), .val (.long q3), .second, .val (.ref a4), .val .null] []))
  refine ogo (fun t k => XS.aloadN X0.here hx rfl (hb hby d1_0) rfl rfl k) ?_
  show OwnEnds _ _ _ _ _ _ _ (s₁.setTop (mkF m 1 #[.val (.ref a1), .val (.ref a2), .val (.long q3), .second, .val (.ref a4), .val .null] [(.ref a1)]))
  obtain ⟨T1, X1, e1, st1⟩ := initO X0 hx hZ hown (hw _ (List.mem_of_getElem? (i := 34) rfl)) (hw _ (List.mem_of_getElem? (i := 35) rfl)) (hw _ (List.mem_of_getElem? (i := 36) rfl)) e0 (g := (mkF m 1 #[.val (.ref a1), .val (.ref a2), .val (.long q3), .second, .val (.ref a4), .val .null] [(.ref a1)])) rfl (by rw [hml]; rfl) rfl (hb hby d1_1) (by decide) (W := 0) (by show 2 * 0 + _ ≤ _; exact Nat.le_of_eq rfl) (by decide)
  refine ogo st1 ?_
  show OwnEnds _ _ _ _ _ _ _ (T1.setTop (mkF m 4 #[.val (.ref a1), .val (.ref a2), .val (.long q3), .second, .val (.ref a4), .val .null] []))
  refine ogo (fun t k => XS.aloadN X1.here hx rfl (hb hby d1_4) rfl rfl k) ?_
  show OwnEnds _ _ _ _ _ _ _ (T1.setTop (mkF m 5 #[.val (.ref a1), .val (.ref a2), .val (.long q3), .second, .val (.ref a4), .val .null] [(.ref a1)]))
  refine ogo (fun t k => XS.aloadN X1.here hx rfl (hb hby d1_5) rfl rfl k) ?_
  show OwnEnds _ _ _ _ _ _ _ (T1.setTop (mkF m 6 #[.val (.ref a1), .val (.ref a2), .val (.long q3), .second, .val (.ref a4), .val .null] [(.ref a2), (.ref a1)]))
  obtain ⟨T2, h2, X2, e2, W2, st2⟩ := putF X1 hx hZ hown (host := "") (Or.inl (hw _ (List.mem_of_getElem? (i := 37) rfl))) Via.refl e1 F_1 E_1 (Or.inr ⟨(hw _ (List.mem_of_getElem? (i := 38) rfl)), rfl, hnm⟩) (hw _ (List.mem_of_getElem? (i := 18) rfl)) (ty := (.object "com/example/once_guard/onceguard/ClaimResult$State")) (by decide) rfl rfl (g := (mkF m 6 #[.val (.ref a1), .val (.ref a2), .val (.long q3), .second, .val (.ref a4), .val .null] [(.ref a2), (.ref a1)])) rfl rfl (hb hby d1_6)
  have f3 := E_1.wr W2
  have f4 := F_1.same W2
  have f5 := F_2.other W2 (Or.inr (slot_ne (Or.inr (hw _ (List.mem_of_getElem? (i := 40) rfl))) (Or.inr (hw _ (List.mem_of_getElem? (i := 38) rfl))) (by decide) (t := .long) (t' := (.object "com/example/once_guard/onceguard/ClaimResult$State")) (by decide) (by decide)))
  have f6 := F_3.other W2 (Or.inr (slot_ne (Or.inr (hw _ (List.mem_of_getElem? (i := 42) rfl))) (Or.inr (hw _ (List.mem_of_getElem? (i := 38) rfl))) (by decide) (t := (.array .byte)) (t' := (.object "com/example/once_guard/onceguard/ClaimResult$State")) (by decide) (by decide)))
  have f7 := F_4.other W2 (Or.inr (slot_ne (Or.inr (hw _ (List.mem_of_getElem? (i := 44) rfl))) (Or.inr (hw _ (List.mem_of_getElem? (i := 38) rfl))) (by decide) (t := (.array .byte)) (t' := (.object "com/example/once_guard/onceguard/ClaimResult$State")) (by decide) (by decide)))
  have N8 := Fr.snoc X2 N0 g1
  have OLD8 := OLD.wr W2 g1
  have K8 := (Keep.refl h0 [a1]).wr W2 (Or.inl (List.mem_of_getElem? (i := 0) rfl))
  have Z8 := Nat.le_trans Z0 (Nat.le_of_eq W2.size.symm)
  refine ogo st2 ?_
  show OwnEnds _ _ _ _ _ _ _ (T2.setTop (mkF m 9 #[.val (.ref a1), .val (.ref a2), .val (.long q3), .second, .val (.ref a4), .val .null] []))
  refine ogo (fun t k => XS.aloadN X2.here hx rfl (hb hby d1_9) rfl rfl k) ?_
  show OwnEnds _ _ _ _ _ _ _ (T2.setTop (mkF m 10 #[.val (.ref a1), .val (.ref a2), .val (.long q3), .second, .val (.ref a4), .val .null] [(.ref a1)]))
  refine ogo (fun t k => XS.lloadN X2.here hx rfl (hb hby d1_10) rfl k) ?_
  show OwnEnds _ _ _ _ _ _ _ (T2.setTop (mkF m 11 #[.val (.ref a1), .val (.ref a2), .val (.long q3), .second, .val (.ref a4), .val .null] [(.long q3), (.ref a1)]))
  obtain ⟨T9, h9, X9, e9, W9, st9⟩ := putF X2 hx hZ hown (host := "") (Or.inl (hw _ (List.mem_of_getElem? (i := 39) rfl))) Via.refl e2 f5 f3 (Or.inr ⟨(hw _ (List.mem_of_getElem? (i := 40) rfl)), rfl, hnm⟩) (hw _ (List.mem_of_getElem? (i := 18) rfl)) (ty := .long) (by decide) rfl rfl (g := (mkF m 11 #[.val (.ref a1), .val (.ref a2), .val (.long q3), .second, .val (.ref a4), .val .null] [(.long q3), (.ref a1)])) rfl rfl (hb hby d1_11)
  have f10 := f3.wr W9
  have f11 := f4.other W9 (Or.inr (slot_ne (Or.inr (hw _ (List.mem_of_getElem? (i := 38) rfl))) (Or.inr (hw _ (List.mem_of_getElem? (i := 40) rfl))) (by decide) (t := (.object "com/example/once_guard/onceguard/ClaimResult$State")) (t' := .long) (by decide) (by decide)))
  have f12 := f5.same W9
  have f13 := f6.other W9 (Or.inr (slot_ne (Or.inr (hw _ (List.mem_of_getElem? (i := 42) rfl))) (Or.inr (hw _ (List.mem_of_getElem? (i := 40) rfl))) (by decide) (t := (.array .byte)) (t' := .long) (by decide) (by decide)))
  have f14 := f7.other W9 (Or.inr (slot_ne (Or.inr (hw _ (List.mem_of_getElem? (i := 44) rfl))) (Or.inr (hw _ (List.mem_of_getElem? (i := 40) rfl))) (by decide) (t := (.array .byte)) (t' := .long) (by decide) (by decide)))
  have N15 := Fr.snoc X9 N8 g1
  have OLD15 := OLD8.wr W9 g1
  have K15 := K8.wr W9 (Or.inl (List.mem_of_getElem? (i := 0) rfl))
  have Z15 := Nat.le_trans Z8 (Nat.le_of_eq W9.size.symm)
  refine ogo st9 ?_
  show OwnEnds _ _ _ _ _ _ _ (T9.setTop (mkF m 14 #[.val (.ref a1), .val (.ref a2), .val (.long q3), .second, .val (.ref a4), .val .null] []))
  refine ogo (fun t k => XS.aloadN X9.here hx rfl (hb hby d1_14) rfl rfl k) ?_
  show OwnEnds _ _ _ _ _ _ _ (T9.setTop (mkF m 15 #[.val (.ref a1), .val (.ref a2), .val (.long q3), .second, .val (.ref a4), .val .null] [(.ref a1)]))
  refine ogo (fun t k => XS.aload X9.here hx rfl (hb hby d1_15) rfl rfl k) ?_
  show OwnEnds _ _ _ _ _ _ _ (T9.setTop (mkF m 17 #[.val (.ref a1), .val (.ref a2), .val (.long q3), .second, .val (.ref a4), .val .null] [(.ref a4), (.ref a1)]))
  obtain ⟨T16, h16, X16, e16, W16, st16⟩ := putF X9 hx hZ hown (host := "") (Or.inl (hw _ (List.mem_of_getElem? (i := 41) rfl))) Via.refl e9 f13 f10 (Or.inr ⟨(hw _ (List.mem_of_getElem? (i := 42) rfl)), rfl, hnm⟩) (hw _ (List.mem_of_getElem? (i := 18) rfl)) (ty := (.array .byte)) (by decide) rfl rfl (g := (mkF m 17 #[.val (.ref a1), .val (.ref a2), .val (.long q3), .second, .val (.ref a4), .val .null] [(.ref a4), (.ref a1)])) rfl rfl (hb hby d1_17)
  have f17 := f10.wr W16
  have f18 := f11.other W16 (Or.inr (slot_ne (Or.inr (hw _ (List.mem_of_getElem? (i := 38) rfl))) (Or.inr (hw _ (List.mem_of_getElem? (i := 42) rfl))) (by decide) (t := (.object "com/example/once_guard/onceguard/ClaimResult$State")) (t' := (.array .byte)) (by decide) (by decide)))
  have f19 := f12.other W16 (Or.inr (slot_ne (Or.inr (hw _ (List.mem_of_getElem? (i := 40) rfl))) (Or.inr (hw _ (List.mem_of_getElem? (i := 42) rfl))) (by decide) (t := .long) (t' := (.array .byte)) (by decide) (by decide)))
  have f20 := f13.same W16
  have f21 := f14.other W16 (Or.inr (slot_ne (Or.inr (hw _ (List.mem_of_getElem? (i := 44) rfl))) (Or.inr (hw _ (List.mem_of_getElem? (i := 42) rfl))) (by decide) (t := (.array .byte)) (t' := (.array .byte)) (by decide) (by decide)))
  have N22 := Fr.snoc X16 N15 g1
  have OLD22 := OLD15.wr W16 g1
  have K22 := K15.wr W16 (Or.inl (List.mem_of_getElem? (i := 0) rfl))
  have Z22 := Nat.le_trans Z15 (Nat.le_of_eq W16.size.symm)
  refine ogo st16 ?_
  show OwnEnds _ _ _ _ _ _ _ (T16.setTop (mkF m 20 #[.val (.ref a1), .val (.ref a2), .val (.long q3), .second, .val (.ref a4), .val .null] []))
  refine ogo (fun t k => XS.aloadN X16.here hx rfl (hb hby d1_20) rfl rfl k) ?_
  show OwnEnds _ _ _ _ _ _ _ (T16.setTop (mkF m 21 #[.val (.ref a1), .val (.ref a2), .val (.long q3), .second, .val (.ref a4), .val .null] [(.ref a1)]))
  refine ogo (fun t k => XS.aload X16.here hx rfl (hb hby d1_21) rfl rfl k) ?_
  show OwnEnds _ _ _ _ _ _ _ (T16.setTop (mkF m 23 #[.val (.ref a1), .val (.ref a2), .val (.long q3), .second, .val (.ref a4), .val .null] [.null, (.ref a1)]))
  obtain ⟨T23, h23, X23, e23, W23, st23⟩ := putF X16 hx hZ hown (host := "") (Or.inl (hw _ (List.mem_of_getElem? (i := 43) rfl))) Via.refl e16 f21 f17 (Or.inr ⟨(hw _ (List.mem_of_getElem? (i := 44) rfl)), rfl, hnm⟩) (hw _ (List.mem_of_getElem? (i := 18) rfl)) (ty := (.array .byte)) (by decide) rfl rfl (g := (mkF m 23 #[.val (.ref a1), .val (.ref a2), .val (.long q3), .second, .val (.ref a4), .val .null] [.null, (.ref a1)])) rfl rfl (hb hby d1_23)
  have f24 := f17.wr W23
  have f25 := f18.other W23 (Or.inr (slot_ne (Or.inr (hw _ (List.mem_of_getElem? (i := 38) rfl))) (Or.inr (hw _ (List.mem_of_getElem? (i := 44) rfl))) (by decide) (t := (.object "com/example/once_guard/onceguard/ClaimResult$State")) (t' := (.array .byte)) (by decide) (by decide)))
  have f26 := f19.other W23 (Or.inr (slot_ne (Or.inr (hw _ (List.mem_of_getElem? (i := 40) rfl))) (Or.inr (hw _ (List.mem_of_getElem? (i := 44) rfl))) (by decide) (t := .long) (t' := (.array .byte)) (by decide) (by decide)))
  have f27 := f20.other W23 (Or.inr (slot_ne (Or.inr (hw _ (List.mem_of_getElem? (i := 42) rfl))) (Or.inr (hw _ (List.mem_of_getElem? (i := 44) rfl))) (by decide) (t := (.array .byte)) (t' := (.array .byte)) (by decide) (by decide)))
  have f28 := f21.same W23
  have N29 := Fr.snoc X23 N22 g1
  have OLD29 := OLD22.wr W23 g1
  have K29 := K22.wr W23 (Or.inl (List.mem_of_getElem? (i := 0) rfl))
  have Z29 := Nat.le_trans Z22 (Nat.le_of_eq W23.size.symm)
  refine ogo st23 ?_
  show OwnEnds _ _ _ _ _ _ _ (T23.setTop (mkF m 26 #[.val (.ref a1), .val (.ref a2), .val (.long q3), .second, .val (.ref a4), .val .null] []))
  refine endV X23 hx hlk hret (hb hby d1_26) (by decide) (by decide) ?_
  show Q1 Z a1 a2 q3 a4 h0 n0 _ T23.heap _
  rw [e23]
  exact ⟨rfl, N29, K29, f25, f27⟩
theorem d2_0 : decode jdk_31_method_11_code 0 = .ok (.aload_n 0, 1) := by decide +kernel
theorem d2_1 : decode jdk_31_method_11_code 1 = .ok (.ifnonnull 12, 3) := by decide +kernel
theorem d2_13 : decode jdk_31_method_11_code 13 = .ok (.aload_n 0, 1) := by decide +kernel
theorem d2_14 : decode jdk_31_method_11_code 14 = .ok (.areturn, 1) := by decide +kernel
theorem pn_Objects : plainName "java/util/Objects" = true := by first | (simp [plainName, overriddenIn]; done) | decide +kernel
theorem ef_2 (m : MethodId) (x0 : Addr) (x1 : Addr) : entryFrame m #[(.ref x0), (.ref x1)] 2 = mkF m 0 #[.val (.ref x0), .val (.ref x1)] [] := by first | (simp [entryFrame, mkF, argsToLocals, Value.category]; done) | rfl
def Q2 (Z : State) (a1 a2 : Addr) (h0 : Heap) (n0 : Nat) (v : Option Value) (h : Heap) (L : List Loc) : Prop := v = some (.ref a1) ∧ Fr n0 L ∧ h = h0
set_option maxRecDepth 65536 in
set_option maxHeartbeats 40000000 in
theorem rm2 (l : Launch) (Z : State) (a0 : Array Value) (hw : ∀ d ∈ tables_1, d.before a0 Z = true) (ws : List Jvm.Cond) (a1 a2 : Addr) (h0 : Heap) (n0 : Nat) (Z0 : n0 ≤ h0.size) :
    MetFree l (⟨"java/util/Objects", "requireNonNull", "(Ljava/lang/Object;Ljava/lang/String;)Ljava/lang/Object;"⟩ : MethodName) (head1 (Jvm.Cond.code (⟨"java/util/Objects", "requireNonNull", "(Ljava/lang/Object;Ljava/lang/String;)Ljava/lang/Object;"⟩ : MethodName) jdk_31_method_11_code 2 (some (.object "java/lang/Object")) :: ws) ({ frames := 0, cells := 0, slots := 0, locals := 0 } : Room)) (fun a U => a = #[(.ref a1), (.ref a2)] ∧ Z.Warmed39 U.vm ∧ U.heap = h0) (fun _ _ _ _ _ => True) (fun _ U o U' => ∃ v L, o = .returned v ∧ Q2 Z a1 a2 h0 n0 v U'.heap L ∧ FrameEnd U o U' L ({ frames := 0, cells := 0, slots := 0, locals := 0 } : Room).cells ({ frames := 0, cells := 0, slots := 0, locals := 0 } : Room).slots) := by
  refine MetFree.of_bodySF (plainFor_of_name pn_Objects) hisR ?_
  intro p e s m args below meth c s₁ Bd hml0 hP hK
  obtain ⟨rfl, hZ, hh⟩ := hP
  have hx := Bd.exec
  have hby := Bd.bytes
  have hml : c.maxLocals = 2 := hml0
  have hown : s.vm.findClass "java/util/Objects" = some m.cls := findClass_of_methodNamed Bd.named
  have hnm := (name_of_methodNamed Bd.named Bd.method).1
  have hlk : meth.locks = false := BodyLoose.notSynchronized Bd
  have hret := Bd.returns
  have X0 : Stand p l e ({ frames := 0, cells := 0, slots := 0, locals := 0 } : Room) s m #[(.ref a1), (.ref a2)] below meth c s₁ [] 0 0 := Stand.of_body Bd
  have e0 : s₁.heap = h0 := by rw [← hh, Bd.state]; rfl
  have N0 := Fr.nil n0
  refine ogo (U' := s₁.setTop (mkF m 0 #[.val (.ref a1), .val (.ref a2)] [])) (Q := Q2 Z a1 a2 h0 n0) (K := ({ frames := 0, cells := 0, slots := 0, locals := 0 } : Room).cells) (N := ({ frames := 0, cells := 0, slots := 0, locals := 0 } : Room).slots) (fun t k => castTop (ef_2 m a1 a2) k) ?_
  show OwnEnds _ _ _ _ _ _ _ (s₁.setTop (mkF m 0 #[.val (.ref a1), .val (.ref a2)] []))
  refine ogo (fun t k => XS.aloadN X0.here hx rfl (hb hby d2_0) rfl rfl k) ?_
  show OwnEnds _ _ _ _ _ _ _ (s₁.setTop (mkF m 1 #[.val (.ref a1), .val (.ref a2)] [(.ref a1)]))
  refine ogo (fun t k => XS.ifnonnullYes X0.here hx rfl (pc0 := 1) (pc' := 13) rfl (hb hby d2_1) rfl (by decide) (by decide) k) ?_
  show OwnEnds _ _ _ _ _ _ _ (s₁.setTop (mkF m 13 #[.val (.ref a1), .val (.ref a2)] []))
  refine ogo (fun t k => XS.aloadN X0.here hx rfl (hb hby d2_13) rfl rfl k) ?_
  show OwnEnds _ _ _ _ _ _ _ (s₁.setTop (mkF m 14 #[.val (.ref a1), .val (.ref a2)] [(.ref a1)]))
  refine endA X0 hx hlk hret rfl rfl (hb hby d2_14) (by decide) (by decide) ?_
  show Q2 Z a1 a2 h0 n0 _ s₁.heap _
  rw [e0]
  exact ⟨by simp [], N0, rfl⟩
theorem d3_0 : decode prog_2_method_5_code 0 = .ok (.aload_n 0, 1) := by decide +kernel
theorem d3_1 : decode prog_2_method_5_code 1 = .ok (.getfield 7, 3) := by decide +kernel
theorem d3_4 : decode prog_2_method_5_code 4 = .ok (.areturn, 1) := by decide +kernel
theorem ef_3 (m : MethodId) (x0 : Addr) : entryFrame m #[(.ref x0)] 1 = mkF m 0 #[.val (.ref x0)] [] := by first | (simp [entryFrame, mkF, argsToLocals, Value.category]; done) | rfl
def Q3 (Z : State) (a1 a2 : Addr) (h0 : Heap) (n0 : Nat) (v : Option Value) (h : Heap) (L : List Loc) : Prop := v = some (.ref a2) ∧ Fr n0 L ∧ h = h0
set_option maxRecDepth 65536 in
set_option maxHeartbeats 40000000 in
theorem rm3 (l : Launch) (Z : State) (a0 : Array Value) (hw : ∀ d ∈ tables_1, d.before a0 Z = true) (ws : List Jvm.Cond) (a1 a2 : Addr) (h0 : Heap) (n0 : Nat) (Z0 : n0 ≤ h0.size) (F_1 : Fld Z h0 a1 "com/example/once_guard/onceguard/ClaimResult" "state" "Lcom/example/once_guard/onceguard/ClaimResult$State;" (.ref a2)) :
    MetFree l (⟨"com/example/once_guard/onceguard/ClaimResult", "state", "()Lcom/example/once_guard/onceguard/ClaimResult$State;"⟩ : MethodName) (head1 (Jvm.Cond.code (⟨"com/example/once_guard/onceguard/ClaimResult", "state", "()Lcom/example/once_guard/onceguard/ClaimResult$State;"⟩ : MethodName) prog_2_method_5_code 1 (some (.object "com/example/once_guard/onceguard/ClaimResult$State")) :: ws) ({ frames := 0, cells := 0, slots := 0, locals := 0 } : Room)) (fun a U => a = #[(.ref a1)] ∧ Z.Warmed39 U.vm ∧ U.heap = h0) (fun _ _ _ _ _ => True) (fun _ U o U' => ∃ v L, o = .returned v ∧ Q3 Z a1 a2 h0 n0 v U'.heap L ∧ FrameEnd U o U' L ({ frames := 0, cells := 0, slots := 0, locals := 0 } : Room).cells ({ frames := 0, cells := 0, slots := 0, locals := 0 } : Room).slots) := by
  refine MetFree.of_bodySF (plainFor_of_name pn_ClaimResult) hisR ?_
  intro p e s m args below meth c s₁ Bd hml0 hP hK
  obtain ⟨rfl, hZ, hh⟩ := hP
  have hx := Bd.exec
  have hby := Bd.bytes
  have hml : c.maxLocals = 1 := hml0
  have hown : s.vm.findClass "com/example/once_guard/onceguard/ClaimResult" = some m.cls := findClass_of_methodNamed Bd.named
  have hnm := (name_of_methodNamed Bd.named Bd.method).1
  have hlk : meth.locks = false := BodyLoose.notSynchronized Bd
  have hret := Bd.returns
  have X0 : Stand p l e ({ frames := 0, cells := 0, slots := 0, locals := 0 } : Room) s m #[(.ref a1)] below meth c s₁ [] 0 0 := Stand.of_body Bd
  have e0 : s₁.heap = h0 := by rw [← hh, Bd.state]; rfl
  have N0 := Fr.nil n0
  refine ogo (U' := s₁.setTop (mkF m 0 #[.val (.ref a1)] [])) (Q := Q3 Z a1 a2 h0 n0) (K := ({ frames := 0, cells := 0, slots := 0, locals := 0 } : Room).cells) (N := ({ frames := 0, cells := 0, slots := 0, locals := 0 } : Room).slots) (fun t k => castTop (ef_3 m a1) k) ?_
  show OwnEnds _ _ _ _ _ _ _ (s₁.setTop (mkF m 0 #[.val (.ref a1)] []))
  refine ogo (fun t k => XS.aloadN X0.here hx rfl (hb hby d3_0) rfl rfl k) ?_
  show OwnEnds _ _ _ _ _ _ _ (s₁.setTop (mkF m 1 #[.val (.ref a1)] [(.ref a1)]))
  obtain ⟨T1, X1, e1, st1⟩ := getF X0 hx hZ hown (host := "") (Or.inl (hw _ (List.mem_of_getElem? (i := 37) rfl))) Via.refl e0 F_1 (g := (mkF m 1 #[.val (.ref a1)] [(.ref a1)])) rfl rfl (hb hby d3_1)
  refine ogo st1 ?_
  show OwnEnds _ _ _ _ _ _ _ (T1.setTop (mkF m 4 #[.val (.ref a1)] [(.ref a2)]))
  refine endA X1 hx hlk hret rfl rfl (hb hby d3_4) (by decide) (by decide) ?_
  show Q3 Z a1 a2 h0 n0 _ T1.heap _
  rw [e1]
  exact ⟨by simp [], N0, rfl⟩
theorem d4_0 : decode prog_2_method_7_code 0 = .ok (.aload_n 0, 1) := by decide +kernel
theorem d4_1 : decode prog_2_method_7_code 1 = .ok (.getfield 7, 3) := by decide +kernel
theorem d4_4 : decode prog_2_method_7_code 4 = .ok (.getstatic 24, 3) := by decide +kernel
theorem d4_7 : decode prog_2_method_7_code 7 = .ok (.if_acmp .ne 13, 3) := by decide +kernel
theorem d4_20 : decode prog_2_method_7_code 20 = .ok (.aload_n 0, 1) := by decide +kernel
theorem d4_21 : decode prog_2_method_7_code 21 = .ok (.getfield 17, 3) := by decide +kernel
theorem d4_24 : decode prog_2_method_7_code 24 = .ok (.invokevirtual 43, 3) := by decide +kernel
theorem d4_27 : decode prog_2_method_7_code 27 = .ok (.checkcast 44, 3) := by decide +kernel
theorem d4_30 : decode prog_2_method_7_code 30 = .ok (.areturn, 1) := by decide +kernel
theorem ef_4 (m : MethodId) (x0 : Addr) : entryFrame m #[(.ref x0)] 1 = mkF m 0 #[.val (.ref x0)] [] := by first | (simp [entryFrame, mkF, argsToLocals, Value.category]; done) | rfl
def Q4 (Z : State) (a1 c1 : Addr) (z1 : Int32) (vs1 : List Value) (w_IN_PROGRESS w_CLAIMED : Addr) (h0 : Heap) (n0 : Nat) (v : Option Value) (h : Heap) (L : List Loc) : Prop := ∃ r : Addr, v = some (.ref r) ∧ h0.size ≤ r ∧ Fr n0 L ∧ Keep h0 h [] ∧ Av Z h r .byte z1 vs1 (.int (0 : Int32)) ∧ Exa Z h r "[B"
set_option maxRecDepth 65536 in
set_option maxHeartbeats 40000000 in
theorem rm4 (l : Launch) (Z : State) (a0 : Array Value) (hw : ∀ d ∈ tables_1, d.before a0 Z = true) (ws : List Jvm.Cond) (a1 c1 : Addr) (z1 : Int32) (vs1 : List Value) (w_IN_PROGRESS w_CLAIMED : Addr) (h0 : Heap) (n0 : Nat) (Z0 : n0 ≤ h0.size) (OLD : Old Z n0 h0) (S_C : Sta Z Z.heap "com/example/once_guard/onceguard/ClaimResult$State" "CLAIMED" "Lcom/example/once_guard/onceguard/ClaimResult$State;" (.ref w_CLAIMED)) (F_1 : Fld Z h0 a1 "com/example/once_guard/onceguard/ClaimResult" "state" "Lcom/example/once_guard/onceguard/ClaimResult$State;" (.ref w_IN_PROGRESS)) (F_2 : Fld Z h0 a1 "com/example/once_guard/onceguard/ClaimResult" "payloadDigest" "[B" (.ref c1)) (V_1 : Av Z h0 c1 .byte z1 vs1 (.int (0 : Int32))) (E_c : Exa Z h0 c1 "[B") (hz : z1.toNatClampNeg ≤ 4) (hne : ¬ (w_IN_PROGRESS = w_CLAIMED)) :
    MetFree l (⟨"com/example/once_guard/onceguard/ClaimResult", "payloadDigest", "()[B"⟩ : MethodName) (head1 (Jvm.Cond.code (⟨"com/example/once_guard/onceguard/ClaimResult", "payloadDigest", "()[B"⟩ : MethodName) prog_2_method_7_code 1 (some (.array .byte)) :: ws) ({ frames := 1, cells := 1, slots := 4, locals := 14 } : Room)) (fun a U => a = #[(.ref a1)] ∧ Z.Warmed39 U.vm ∧ U.heap = h0) (fun _ _ _ _ _ => True) (fun _ U o U' => ∃ v L, o = .returned v ∧ Q4 Z a1 c1 z1 vs1 w_IN_PROGRESS w_CLAIMED h0 n0 v U'.heap L ∧ FrameEnd U o U' L ({ frames := 1, cells := 1, slots := 4, locals := 14 } : Room).cells ({ frames := 1, cells := 1, slots := 4, locals := 14 } : Room).slots) := by
  refine MetFree.of_bodySF (plainFor_of_name pn_ClaimResult) hisR ?_
  intro p e s m args below meth c s₁ Bd hml0 hP hK
  obtain ⟨rfl, hZ, hh⟩ := hP
  have hx := Bd.exec
  have hby := Bd.bytes
  have hml : c.maxLocals = 1 := hml0
  have hown : s.vm.findClass "com/example/once_guard/onceguard/ClaimResult" = some m.cls := findClass_of_methodNamed Bd.named
  have hnm := (name_of_methodNamed Bd.named Bd.method).1
  have hlk : meth.locks = false := BodyLoose.notSynchronized Bd
  have hret := Bd.returns
  have X0 : Stand p l e ({ frames := 1, cells := 1, slots := 4, locals := 14 } : Room) s m #[(.ref a1)] below meth c s₁ [] 0 0 := Stand.of_body Bd
  have e0 : s₁.heap = h0 := by rw [← hh, Bd.state]; rfl
  have N0 := Fr.nil n0
  refine ogo (U' := s₁.setTop (mkF m 0 #[.val (.ref a1)] [])) (Q := Q4 Z a1 c1 z1 vs1 w_IN_PROGRESS w_CLAIMED h0 n0) (K := ({ frames := 1, cells := 1, slots := 4, locals := 14 } : Room).cells) (N := ({ frames := 1, cells := 1, slots := 4, locals := 14 } : Room).slots) (fun t k => castTop (ef_4 m a1) k) ?_
  show OwnEnds _ _ _ _ _ _ _ (s₁.setTop (mkF m 0 #[.val (.ref a1)] []))
  refine ogo (fun t k => XS.aloadN X0.here hx rfl (hb hby d4_0) rfl rfl k) ?_
  show OwnEnds _ _ _ _ _ _ _ (s₁.setTop (mkF m 1 #[.val (.ref a1)] [(.ref a1)]))
  obtain ⟨T1, X1, e1, st1⟩ := getF X0 hx hZ hown (host := "") (Or.inl (hw _ (List.mem_of_getElem? (i := 37) rfl))) Via.refl e0 F_1 (g := (mkF m 1 #[.val (.ref a1)] [(.ref a1)])) rfl rfl (hb hby d4_1)
  refine ogo st1 ?_
  show OwnEnds _ _ _ _ _ _ _ (T1.setTop (mkF m 4 #[.val (.ref a1)] [(.ref w_IN_PROGRESS)]))
  obtain ⟨T2, X2, e2, st2⟩ := getS2 X1 hx hZ hown (host := "") (Or.inl (hw _ (List.mem_of_getElem? (i := 56) rfl))) Via.refl e1 (S_C.ext OLD.2) (g := (mkF m 4 #[.val (.ref a1)] [(.ref w_IN_PROGRESS)])) rfl (hb hby d4_4)
  refine ogo st2 ?_
  show OwnEnds _ _ _ _ _ _ _ (T2.setTop (mkF m 7 #[.val (.ref a1)] [(.ref w_CLAIMED), (.ref w_IN_PROGRESS)]))
  refine ogo (fun t k => Jvm.RoadKit.acmp (g := (mkF m 7 #[.val (.ref a1)] [(.ref w_CLAIMED), (.ref w_IN_PROGRESS)])) X2 hx rfl rfl rfl (pc0 := 7) (pc' := 20) (same := false) rfl (hb hby d4_7) rfl (decide_eq_false fun q => hne (Value.ref.inj q)) (by decide) (by decide) k) ?_
  show OwnEnds _ _ _ _ _ _ _ (T2.setTop (mkF m 20 #[.val (.ref a1)] []))
  refine ogo (fun t k => XS.aloadN X2.here hx rfl (hb hby d4_20) rfl rfl k) ?_
  show OwnEnds _ _ _ _ _ _ _ (T2.setTop (mkF m 21 #[.val (.ref a1)] [(.ref a1)]))
  obtain ⟨T3, X3, e3, st3⟩ := getF X2 hx hZ hown (host := "") (Or.inl (hw _ (List.mem_of_getElem? (i := 41) rfl))) Via.refl e2 F_2 (g := (mkF m 21 #[.val (.ref a1)] [(.ref a1)])) rfl rfl (hb hby d4_21)
  refine ogo st3 ?_
  show OwnEnds _ _ _ _ _ _ _ (T3.setTop (mkF m 24 #[.val (.ref a1)] [(.ref c1)]))
  obtain ⟨kc4, Vc4⟩ := id V_1
  obtain ⟨T4, h4, X4, e4, E4, A4, B4, st4⟩ := cloneH X3 hx hZ hown (hw _ (List.mem_of_getElem? (i := 22) rfl)) (hw _ (List.mem_of_getElem? (i := 23) rfl)) (hw _ (List.mem_of_getElem? (i := 27) rfl)) (hw _ (List.mem_of_getElem? (i := 25) rfl)) (hw _ (List.mem_of_getElem? (i := 26) rfl)) (hw _ (List.mem_of_getElem? (i := 28) rfl)) e3 (Arv.arh Vc4) E_c (g := (mkF m 24 #[.val (.ref a1)] [(.ref c1)])) rfl (by rw [hml]; rfl) rfl (hb hby d4_24) (by decide) (W := 0) (cap := 4) (by show 2 * 0 + _ ≤ _; exact Nat.le_of_eq rfl) (by decide) hz (by decide) (by decide)
  obtain ⟨b4, g4⟩ : ∃ z, z = h0.size := ⟨_, rfl⟩
  rw [← g4] at A4 B4 st4
  have ne_a1_b4 : a1 ≠ b4 := Nat.ne_of_lt (Nat.lt_of_lt_of_le (F_1).lt (Nat.le_of_eq g4.symm))
  have ne_c1_b4 : c1 ≠ b4 := Nat.ne_of_lt (Nat.lt_of_lt_of_le (V_1).lt (Nat.le_of_eq g4.symm))
  have q_b4 : n0 ≤ b4 := Nat.le_trans Z0 (Nat.le_of_eq g4.symm)
  have sz_b4 : h0.size ≤ b4 := Nat.le_trans (Keep.refl h0 []).1 (Nat.le_of_eq g4.symm)
  have f5 := F_1.ext E4
  have f6 := F_2.ext E4
  have f7 := V_1.ext E4
  have f8 := E_c.ext E4
  have OLD9 := OLD.ext E4
  have K9 := (Keep.refl h0 []).ext E4
  have Z9 := Nat.le_trans Z0 E4.1
  have V4 : Arv Z h4 b4 kc4 .byte z1 vs1 (.int (0 : Int32)) := A4
  refine ogo st4 ?_
  show OwnEnds _ _ _ _ _ _ _ (T4.setTop (mkF m 27 #[.val (.ref a1)] [(.ref b4)]))
  obtain ⟨T10, X10, e10, st10⟩ := castY X4 hx hZ hown (hw _ (List.mem_of_getElem? (i := 29) rfl)) e4 (Ins.self B4) (g := (mkF m 27 #[.val (.ref a1)] [(.ref b4)])) rfl rfl (hb hby d4_27)
  refine ogo st10 ?_
  show OwnEnds _ _ _ _ _ _ _ (T10.setTop (mkF m 30 #[.val (.ref a1)] [(.ref b4)]))
  refine endA X10 hx hlk hret rfl rfl (hb hby d4_30) (by decide) (by decide) ?_
  show Q4 Z a1 c1 z1 vs1 w_IN_PROGRESS w_CLAIMED h0 n0 _ T10.heap _
  rw [e10]
  exact ⟨b4, rfl, sz_b4, N0, K9, ⟨_, V4⟩, B4⟩
theorem d5_0 : decode prog_2_method_3_code 0 = .ok (.aload_n 0, 1) := by decide +kernel
theorem d5_1 : decode prog_2_method_3_code 1 = .ok (.ldc 32, 2) := by decide +kernel
theorem d5_3 : decode prog_2_method_3_code 3 = .ok (.invokestatic 34, 3) := by decide +kernel
theorem d5_6 : decode prog_2_method_3_code 6 = .ok (.pop, 1) := by decide +kernel
theorem d5_7 : decode prog_2_method_3_code 7 = .ok (.new 8, 3) := by decide +kernel
theorem d5_10 : decode prog_2_method_3_code 10 = .ok (.dup, 1) := by decide +kernel
theorem d5_11 : decode prog_2_method_3_code 11 = .ok (.getstatic 40, 3) := by decide +kernel
theorem d5_14 : decode prog_2_method_3_code 14 = .ok (.lconst 0, 1) := by decide +kernel
theorem d5_15 : decode prog_2_method_3_code 15 = .ok (.aload_n 0, 1) := by decide +kernel
theorem d5_16 : decode prog_2_method_3_code 16 = .ok (.invokevirtual 43, 3) := by decide +kernel
theorem d5_19 : decode prog_2_method_3_code 19 = .ok (.checkcast 44, 3) := by decide +kernel
theorem d5_22 : decode prog_2_method_3_code 22 = .ok (.aconst_null, 1) := by decide +kernel
theorem d5_23 : decode prog_2_method_3_code 23 = .ok (.invokespecial 29, 3) := by decide +kernel
theorem d5_26 : decode prog_2_method_3_code 26 = .ok (.areturn, 1) := by decide +kernel
theorem pd__Ljava_lang_Object_Ljava_lang_String__Ljava_lang_Object_ : parseMethodDescriptor "(Ljava/lang/Object;Ljava/lang/String;)Ljava/lang/Object;" = some ⟨[(.object "java/lang/Object"), (.object "java/lang/String")], some (.object "java/lang/Object")⟩ := by decide +kernel
theorem pd_8490cb10 : parseMethodDescriptor "(Lcom/example/once_guard/onceguard/ClaimResult$State;J[B[B)V" = some ⟨[(.object "com/example/once_guard/onceguard/ClaimResult$State"), .long, (.array .byte), (.array .byte)], none⟩ := by decide +kernel
theorem ef_5 (m : MethodId) (x0 : Addr) : entryFrame m #[(.ref x0)] 1 = mkF m 0 #[.val (.ref x0)] [] := by first | (simp [entryFrame, mkF, argsToLocals, Value.category]; done) | rfl
def Q5 (Z : State) (a1 : Addr) (z1 : Int32) (vs1 : List Value) (w_IN_PROGRESS : Addr) (h0 : Heap) (n0 : Nat) (v : Option Value) (h : Heap) (L : List Loc) : Prop := ∃ r c : Addr, v = some (.ref r) ∧ h0.size ≤ r ∧ h0.size ≤ c ∧ Fr n0 L ∧ Keep h0 h [] ∧ Exa Z h r "com/example/once_guard/onceguard/ClaimResult" ∧ Fld Z h r "com/example/once_guard/onceguard/ClaimResult" "state" "Lcom/example/once_guard/onceguard/ClaimResult$State;" (.ref w_IN_PROGRESS) ∧ Fld Z h r "com/example/once_guard/onceguard/ClaimResult" "payloadDigest" "[B" (.ref c) ∧ Av Z h c .byte z1 vs1 (.int (0 : Int32)) ∧ Exa Z h c "[B"
set_option maxRecDepth 65536 in
set_option maxHeartbeats 40000000 in
theorem rm5 (l : Launch) (Z : State) (a0 : Array Value) (hw : ∀ d ∈ tables_1, d.before a0 Z = true) (ws : List Jvm.Cond) (a1 : Addr) (z1 : Int32) (vs1 : List Value) (w_IN_PROGRESS : Addr) (h0 : Heap) (n0 : Nat) (Z0 : n0 ≤ h0.size) (OLD : Old Z n0 h0) (S_I : Sta Z Z.heap "com/example/once_guard/onceguard/ClaimResult$State" "IN_PROGRESS" "Lcom/example/once_guard/onceguard/ClaimResult$State;" (.ref w_IN_PROGRESS)) (V_1 : Av Z h0 a1 .byte z1 vs1 (.int (0 : Int32))) (E_1 : Exa Z h0 a1 "[B") (hz : z1.toNatClampNeg ≤ 4) :
    MetFree l (⟨"com/example/once_guard/onceguard/ClaimResult", "inProgress", "([B)Lcom/example/once_guard/onceguard/ClaimResult;"⟩ : MethodName) (head1 (Jvm.Cond.code (⟨"com/example/once_guard/onceguard/ClaimResult", "inProgress", "([B)Lcom/example/once_guard/onceguard/ClaimResult;"⟩ : MethodName) prog_2_method_3_code 1 (some (.object "com/example/once_guard/onceguard/ClaimResult")) :: ws) ({ frames := 2, cells := 4, slots := 132, locals := 30 } : Room)) (fun a U => a = #[(.ref a1)] ∧ Z.Warmed39 U.vm ∧ U.heap = h0) (fun _ _ _ _ _ => True) (fun _ U o U' => ∃ v L, o = .returned v ∧ Q5 Z a1 z1 vs1 w_IN_PROGRESS h0 n0 v U'.heap L ∧ ReturnedEndW U o U' L ({ frames := 2, cells := 4, slots := 132, locals := 30 } : Room).cells ({ frames := 2, cells := 4, slots := 132, locals := 30 } : Room).slots) := by
  refine MetFree.of_bodySF (plainFor_of_name pn_ClaimResult) hisR ?_
  intro p e s m args below meth c s₁ Bd hml0 hP hK
  obtain ⟨rfl, hZ, hh⟩ := hP
  have hx := Bd.exec
  have hby := Bd.bytes
  have hml : c.maxLocals = 1 := hml0
  have hown : s.vm.findClass "com/example/once_guard/onceguard/ClaimResult" = some m.cls := findClass_of_methodNamed Bd.named
  have hnm := (name_of_methodNamed Bd.named Bd.method).1
  have hlk : meth.locks = false := BodyLoose.notSynchronized Bd
  have hret := Bd.returns
  have X0 : Stand p l e ({ frames := 2, cells := 4, slots := 132, locals := 30 } : Room) s m #[(.ref a1)] below meth c s₁ [] 0 0 := Stand.of_body Bd
  have e0 : s₁.heap = h0 := by rw [← hh, Bd.state]; rfl
  have N0 := Fr.nil n0
  have X0 : Stand p l e ({ frames := 2, cells := 4, slots := 132, locals := 30 } : Room) (s.setVm s.vm) m #[(.ref a1)] below meth c s₁ [] 0 0 := X0
  have hZ : Z.Warmed39 (s.setVm s.vm).vm := hZ
  have hown : (s.setVm s.vm).vm.findClass "com/example/once_guard/onceguard/ClaimResult" = some m.cls := hown
  have hS0 : s.Since s.vm 0 := own_since0 s
  refine ogoW (U' := s₁.setTop (mkF m 0 #[.val (.ref a1)] [])) (Q := Q5 Z a1 z1 vs1 w_IN_PROGRESS h0 n0) (K := ({ frames := 2, cells := 4, slots := 132, locals := 30 } : Room).cells) (N := ({ frames := 2, cells := 4, slots := 132, locals := 30 } : Room).slots) (fun t k => castTop (ef_5 m a1) k) ?_
  show OwnEndsW _ _ _ _ _ _ _ (s₁.setTop (mkF m 0 #[.val (.ref a1)] []))
  refine ogoW (fun t k => XS.aloadN X0.here hx rfl (hb hby d5_0) rfl rfl k) ?_
  show OwnEndsW _ _ _ _ _ _ _ (s₁.setTop (mkF m 1 #[.val (.ref a1)] [(.ref a1)]))
  obtain ⟨sa1, T1, h1, ks1, X1, e1, E1, hS1, hk1, hZ, hown, st1⟩ := ldcS X0 hx hZ hown (hw _ (List.mem_of_getElem? (i := 6) rfl)) (own_str hw) e0 hS0 (Nat.zero_le _) (g := (mkF m 1 #[.val (.ref a1)] [(.ref a1)])) rfl (hb hby d5_1) (n := 120) (by decide) (by decide) (by decide) (by decide)
  have f2 := V_1.ext E1
  have f3 := E_1.ext E1
  have OLD4 := OLD.ext E1
  have K4 := (Keep.refl h0 []).ext E1
  have Z4 := Nat.le_trans Z0 E1.1
  refine ogoW st1 ?_
  show OwnEndsW _ _ _ _ _ _ _ (T1.setTop (mkF m 3 #[.val (.ref a1)] [(.ref sa1), (.ref a1)]))
  obtain ⟨v5, _, ⟨T5, L5, k5, n5⟩, -, X5, ⟨Lc5, hQ5, l5, y5, z5⟩, st5⟩ := Jvm.LawKit.callS X1 hx (y := (⟨"java/util/Objects", "requireNonNull", "(Ljava/lang/Object;Ljava/lang/String;)Ljava/lang/Object;"⟩ : MethodName)) hown (mvT hZ (hw _ (List.mem_of_getElem? (i := 13) rfl))) (mvT hZ (hw _ (List.mem_of_getElem? (i := 14) rfl))) (mvT hZ (hw _ (List.mem_of_getElem? (i := 15) rfl))) (mvT hZ (hw _ (List.mem_of_getElem? (i := 16) rfl))) (by decide) (backOf (W := 0) (rm2 l Z a0 hw [] a1 sa1 h1 n0 Z4 ) hZ (hw _ (List.mem_of_getElem? (i := 16) rfl)) (hw _ (List.mem_of_getElem? (i := 15) rfl)) (by decide) (by decide)) (g := (mkF m 3 #[.val (.ref a1)] [(.ref sa1), (.ref a1)])) rfl (by rw [hml]; rfl) (argsL := [(.ref a1), (.ref sa1)]) (rest := []) (lenOf pd__Ljava_lang_Object_Ljava_lang_String__Ljava_lang_Object_ rfl) rfl (by show 2 * 0 + _ ≤ _; exact Nat.le_of_eq rfl) (hb hby d5_3) (fun _ _ => ⟨rfl, e1, (by decide : 2 + 0 ≤ _), (by decide : 124 + 0 ≤ _)⟩)
  dsimp only [Pt.U, Pt.locs, Pt.cells, Pt.slots] at X5 l5 y5 z5 st5 hQ5
  subst l5 y5 z5
  obtain ⟨rfl, N5q, e5⟩ := hQ5
  have N5 := Fr.app N0 N5q
  refine ogoW (fun t k => st5 t k) ?_
  show OwnEndsW _ _ _ _ _ _ _ (T5.setTop (mkF m 6 #[.val (.ref a1)] [(.ref a1)]))
  refine ogoW (fun t k => XS.pop X5.here hx rfl (hb hby d5_6) rfl rfl k) ?_
  show OwnEndsW _ _ _ _ _ _ _ (T5.setTop (mkF m 7 #[.val (.ref a1)] []))
  obtain ⟨T6, h6, X6, e6, E6, A6, D6, -, st6⟩ := newO X5 hx hZ hown (hw _ (List.mem_of_getElem? (i := 17) rfl)) (hw _ (List.mem_of_getElem? (i := 18) rfl)) (hw _ (List.mem_of_getElem? (i := 4) rfl)) e5 (g := (mkF m 7 #[.val (.ref a1)] [])) rfl (hb hby d5_7) (by decide) (by decide)
  obtain ⟨b6, g6⟩ : ∃ z, z = h1.size := ⟨_, rfl⟩
  rw [← g6] at A6 D6 st6
  have ne_a1_b6 : a1 ≠ b6 := Nat.ne_of_lt (Nat.lt_of_lt_of_le (f2).lt (Nat.le_of_eq g6.symm))
  have q_b6 : n0 ≤ b6 := Nat.le_trans Z4 (Nat.le_of_eq g6.symm)
  have sz_b6 : h0.size ≤ b6 := Nat.le_trans K4.1 (Nat.le_of_eq g6.symm)
  have f7 := f2.ext E6
  have f8 := f3.ext E6
  have OLD9 := OLD4.ext E6
  have K9 := K4.ext E6
  have Z9 := Nat.le_trans Z4 E6.1
  have hk10 := Nat.le_trans hk1 E6.1
  have f11 : Fld Z h6 b6 "com/example/once_guard/onceguard/ClaimResult" "state" "Lcom/example/once_guard/onceguard/ClaimResult$State;" .null := D6 (Or.inr (hw _ (List.mem_of_getElem? (i := 38) rfl))) (ty := (.object "com/example/once_guard/onceguard/ClaimResult$State")) (by decide)
  have f12 : Fld Z h6 b6 "com/example/once_guard/onceguard/ClaimResult" "fencingNumber" "J" (.long (0 : Int64)) := D6 (Or.inr (hw _ (List.mem_of_getElem? (i := 40) rfl))) (ty := .long) (by decide)
  have f13 : Fld Z h6 b6 "com/example/once_guard/onceguard/ClaimResult" "payloadDigest" "[B" .null := D6 (Or.inr (hw _ (List.mem_of_getElem? (i := 42) rfl))) (ty := (.array .byte)) (by decide)
  have f14 : Fld Z h6 b6 "com/example/once_guard/onceguard/ClaimResult" "outcome" "[B" .null := D6 (Or.inr (hw _ (List.mem_of_getElem? (i := 44) rfl))) (ty := (.array .byte)) (by decide)
  refine ogoW st6 ?_
  show OwnEndsW _ _ _ _ _ _ _ (T6.setTop (mkF m 10 #[.val (.ref a1)] [(.ref b6)]))
  refine ogoW (fun t k => XS.dup X6.here hx rfl (hb hby d5_10) rfl rfl k) ?_
  show OwnEndsW _ _ _ _ _ _ _ (T6.setTop (mkF m 11 #[.val (.ref a1)] [(.ref b6), (.ref b6)]))
  obtain ⟨T15, X15, e15, st15⟩ := getS2 X6 hx hZ hown (host := "") (Or.inl (hw _ (List.mem_of_getElem? (i := 19) rfl))) Via.refl e6 (S_I.ext OLD9.2) (g := (mkF m 11 #[.val (.ref a1)] [(.ref b6), (.ref b6)])) rfl (hb hby d5_11)
  refine ogoW st15 ?_
  show OwnEndsW _ _ _ _ _ _ _ (T15.setTop (mkF m 14 #[.val (.ref a1)] [(.ref w_IN_PROGRESS), (.ref b6), (.ref b6)]))
  refine ogoW (fun t k => XS.lconst X15.here hx rfl (hb hby d5_14) k) ?_
  show OwnEndsW _ _ _ _ _ _ _ (T15.setTop (mkF m 15 #[.val (.ref a1)] [(.long (0 : Int64)), (.ref w_IN_PROGRESS), (.ref b6), (.ref b6)]))
  refine ogoW (fun t k => XS.aloadN X15.here hx rfl (hb hby d5_15) rfl rfl k) ?_
  show OwnEndsW _ _ _ _ _ _ _ (T15.setTop (mkF m 16 #[.val (.ref a1)] [(.ref a1), (.long (0 : Int64)), (.ref w_IN_PROGRESS), (.ref b6), (.ref b6)]))
  obtain ⟨kc16, Vc16⟩ := id f7
  obtain ⟨T16, h16, X16, e16, E16, A16, B16, st16⟩ := cloneH X15 hx hZ hown (hw _ (List.mem_of_getElem? (i := 22) rfl)) (hw _ (List.mem_of_getElem? (i := 23) rfl)) (hw _ (List.mem_of_getElem? (i := 27) rfl)) (hw _ (List.mem_of_getElem? (i := 25) rfl)) (hw _ (List.mem_of_getElem? (i := 26) rfl)) (hw _ (List.mem_of_getElem? (i := 28) rfl)) e15 (Arv.arh Vc16) f8 (g := (mkF m 16 #[.val (.ref a1)] [(.ref a1), (.long (0 : Int64)), (.ref w_IN_PROGRESS), (.ref b6), (.ref b6)])) rfl (by rw [hml]; rfl) rfl (hb hby d5_16) (by decide) (W := 5) (cap := 4) (by show 2 * 0 + _ ≤ _; exact Nat.le_of_eq rfl) (by decide) hz (by decide) (by decide)
  obtain ⟨b16, g16⟩ : ∃ z, z = h6.size := ⟨_, rfl⟩
  rw [← g16] at A16 B16 st16
  have ne_a1_b16 : a1 ≠ b16 := Nat.ne_of_lt (Nat.lt_of_lt_of_le (f7).lt (Nat.le_of_eq g16.symm))
  have ne_b6_b16 : b6 ≠ b16 := Nat.ne_of_lt (Nat.lt_of_lt_of_le (A6).lt (Nat.le_of_eq g16.symm))
  have q_b16 : n0 ≤ b16 := Nat.le_trans Z9 (Nat.le_of_eq g16.symm)
  have sz_b16 : h0.size ≤ b16 := Nat.le_trans K9.1 (Nat.le_of_eq g16.symm)
  have f17 := f7.ext E16
  have f18 := f8.ext E16
  have f19 := A6.ext E16
  have f20 := f11.ext E16
  have f21 := f12.ext E16
  have f22 := f13.ext E16
  have f23 := f14.ext E16
  have OLD24 := OLD9.ext E16
  have K24 := K9.ext E16
  have Z24 := Nat.le_trans Z9 E16.1
  have hk25 := Nat.le_trans hk10 E16.1
  have V16 : Arv Z h16 b16 kc16 .byte z1 vs1 (.int (0 : Int32)) := A16
  refine ogoW st16 ?_
  show OwnEndsW _ _ _ _ _ _ _ (T16.setTop (mkF m 19 #[.val (.ref a1)] [(.ref b16), (.long (0 : Int64)), (.ref w_IN_PROGRESS), (.ref b6), (.ref b6)]))
  obtain ⟨T26, X26, e26, st26⟩ := castY X16 hx hZ hown (hw _ (List.mem_of_getElem? (i := 29) rfl)) e16 (Ins.self B16) (g := (mkF m 19 #[.val (.ref a1)] [(.ref b16), (.long (0 : Int64)), (.ref w_IN_PROGRESS), (.ref b6), (.ref b6)])) rfl rfl (hb hby d5_19)
  refine ogoW st26 ?_
  show OwnEndsW _ _ _ _ _ _ _ (T26.setTop (mkF m 22 #[.val (.ref a1)] [(.ref b16), (.long (0 : Int64)), (.ref w_IN_PROGRESS), (.ref b6), (.ref b6)]))
  refine ogoW (fun t k => XS.aconstNull X26.here hx rfl (hb hby d5_22) k) ?_
  show OwnEndsW _ _ _ _ _ _ _ (T26.setTop (mkF m 23 #[.val (.ref a1)] [.null, (.ref b16), (.long (0 : Int64)), (.ref w_IN_PROGRESS), (.ref b6), (.ref b6)]))
  obtain ⟨v27, _, ⟨T27, L27, k27, n27⟩, -, X27, ⟨Lc27, hQ27, l27, y27, z27⟩, st27⟩ := X26.specialBack hx (y := (⟨"com/example/once_guard/onceguard/ClaimResult", "<init>", "(Lcom/example/once_guard/onceguard/ClaimResult$State;J[B[B)V"⟩ : MethodName)) rfl hown (mvT hZ (hw _ (List.mem_of_getElem? (i := 31) rfl))) (mvT hZ (hw _ (List.mem_of_getElem? (i := 32) rfl))) (mvT hZ (hw _ (List.mem_of_getElem? (i := 33) rfl))) (by decide) (backOf (W := 1) (rm1 l Z a0 hw [] b6 w_IN_PROGRESS (0 : Int64) b16 h16 n0 Z24 OLD24 f19 f20 f21 f22 f23 q_b6) hZ (hw _ (List.mem_of_getElem? (i := 33) rfl)) (hw _ (List.mem_of_getElem? (i := 4) rfl)) (by decide) (by decide)) (g := (mkF m 23 #[.val (.ref a1)] [.null, (.ref b16), (.long (0 : Int64)), (.ref w_IN_PROGRESS), (.ref b6), (.ref b6)])) rfl (by rw [hml]; rfl) (Steps.refl _) (a := b6) (argsL := [(.ref w_IN_PROGRESS), (.long (0 : Int64)), (.ref b16), .null]) (rest := [(.ref b6)]) (lenOf pd_8490cb10 rfl) rfl (by show 2 * 0 + _ ≤ _; exact Nat.le_of_eq rfl) (hb hby d5_23) (fun _ _ => ⟨rfl, e26, (by decide : 4 + 0 ≤ _), (by decide : 132 + 0 ≤ _)⟩)
  dsimp only [Pt.U, Pt.locs, Pt.cells, Pt.slots] at X27 l27 y27 z27 st27 hQ27
  subst l27 y27 z27
  obtain ⟨rfl, N27q, Kq27, Fa27, Fb27⟩ := hQ27
  have N27 := Fr.app N5 N27q
  have f28 := f17.keep Kq27 (ninS ne_a1_b6 nin0)
  have f29 := f18.keep Kq27
  have f30 := f19.keep Kq27
  have f31 := V16.keep Kq27 (ninS (Ne.symm ne_b6_b16) nin0)
  have f32 := B16.keep Kq27
  have OLD33 := OLD24.keep Kq27 (allS q_b6 all0)
  have K33 := K24.trans Kq27 (allS (Or.inr sz_b6) all0)
  have Z33 := Nat.le_trans Z24 Kq27.1
  have hk34 := Nat.le_trans hk25 Kq27.1
  refine ogoW (fun t k => st27.trans k) ?_
  show OwnEndsW _ _ _ _ _ _ _ (T27.setTop (mkF m 26 #[.val (.ref a1)] [(.ref b6)]))
  refine endAW X27 hS1 hk34 hx hlk hret rfl rfl (hb hby d5_26) (by decide) (by decide) ?_
  show Q5 Z a1 z1 vs1 w_IN_PROGRESS h0 n0 _ T27.heap _
  exact ⟨b6, b16, rfl, sz_b6, sz_b16, N27, K33, f30, Fa27, Fb27, ⟨_, f31⟩, f32⟩
theorem d60_0 : decode method_3_code 0 = .ok (.aload_n 0, 1) := by decide +kernel
theorem d60_1 : decode method_3_code 1 = .ok (.ifnull 9, 3) := by decide +kernel
theorem d60_4 : decode method_3_code 4 = .ok (.aload_n 0, 1) := by decide +kernel
theorem d60_5 : decode method_3_code 5 = .ok (.arraylength, 1) := by decide +kernel
theorem d60_6 : decode method_3_code 6 = .ok (.iload_n 1, 1) := by decide +kernel
theorem d60_7 : decode method_3_code 7 = .ok (.if_icmp .eq 5, 3) := by decide +kernel
theorem d60_12 : decode method_3_code 12 = .ok (.iload_n 1, 1) := by decide +kernel
theorem d60_13 : decode method_3_code 13 = .ok (.ifCond .le 12, 3) := by decide +kernel
theorem d60_25 : decode method_3_code 25 = .ok (.iload_n 1, 1) := by decide +kernel
theorem d60_26 : decode method_3_code 26 = .ok (.iconst 1, 1) := by decide +kernel
theorem d60_27 : decode method_3_code 27 = .ok (.if_icmp .le 12, 3) := by decide +kernel
theorem d60_39 : decode method_3_code 39 = .ok (.iload_n 1, 1) := by decide +kernel
theorem d60_40 : decode method_3_code 40 = .ok (.iconst 2, 1) := by decide +kernel
theorem d60_41 : decode method_3_code 41 = .ok (.if_icmp .le 13, 3) := by decide +kernel
theorem d60_54 : decode method_3_code 54 = .ok (.iload_n 1, 1) := by decide +kernel
theorem d60_55 : decode method_3_code 55 = .ok (.iconst 3, 1) := by decide +kernel
theorem d60_56 : decode method_3_code 56 = .ok (.if_icmp .le 13, 3) := by decide +kernel
theorem d60_69 : decode method_3_code 69 = .ok (.iconst 1, 1) := by decide +kernel
theorem d60_70 : decode method_3_code 70 = .ok (.ireturn, 1) := by decide +kernel
theorem pn_ClaimResultInProgressPinLaw : plainName "com/example/once_guard/onceguard/ClaimResultInProgressPinLaw" = true := by first | (simp [plainName, overriddenIn]; done) | decide +kernel
theorem ef_60 (m : MethodId) (x0 : Addr) (x1 : Int32) (x2 : Int32) (x3 : Int32) (x4 : Int32) (x5 : Int32) : entryFrame m #[(.ref x0), (.int x1), (.int x2), (.int x3), (.int x4), (.int x5)] 6 = mkF m 0 #[.val (.ref x0), .val (.int x1), .val (.int x2), .val (.int x3), .val (.int x4), .val (.int x5)] [] := by first | (simp [entryFrame, mkF, argsToLocals, Value.category]; done) | rfl
def Q60 (Z : State) (a1 : Addr) (v0 v1 v2 v3 : Int32) (h0 : Heap) (n0 : Nat) (v : Option Value) (h : Heap) (L : List Loc) : Prop := v = some (.int 1) ∧ Fr n0 L ∧ h = h0
set_option maxRecDepth 65536 in
set_option maxHeartbeats 40000000 in
theorem rm60 (l : Launch) (Z : State) (a0 : Array Value) (hw : ∀ d ∈ tables_1, d.before a0 Z = true) (ws : List Jvm.Cond) (a1 : Addr) (v0 v1 v2 v3 : Int32) (h0 : Heap) (n0 : Nat) (Z0 : n0 ≤ h0.size) (V_1 : Av Z h0 a1 .byte (0 : Int32) [] (.int (0 : Int32))) :
    MetFree l (⟨"com/example/once_guard/onceguard/ClaimResultInProgressPinLaw", "same", "([BIBBBB)Z"⟩ : MethodName) (head1 (Jvm.Cond.code (⟨"com/example/once_guard/onceguard/ClaimResultInProgressPinLaw", "same", "([BIBBBB)Z"⟩ : MethodName) method_3_code 6 (some .boolean) :: ws) ({ frames := 0, cells := 0, slots := 0, locals := 0 } : Room)) (fun a U => a = #[(.ref a1), (.int (0 : Int32)), (.int v0), (.int v1), (.int v2), (.int v3)] ∧ Z.Warmed39 U.vm ∧ U.heap = h0) (fun _ _ _ _ _ => True) (fun _ U o U' => ∃ v L, o = .returned v ∧ Q60 Z a1 v0 v1 v2 v3 h0 n0 v U'.heap L ∧ FrameEnd U o U' L ({ frames := 0, cells := 0, slots := 0, locals := 0 } : Room).cells ({ frames := 0, cells := 0, slots := 0, locals := 0 } : Room).slots) := by
  refine MetFree.of_bodySF (plainFor_of_name pn_ClaimResultInProgressPinLaw) hisR ?_
  intro p e s m args below meth c s₁ Bd hml0 hP hK
  obtain ⟨rfl, hZ, hh⟩ := hP
  have hx := Bd.exec
  have hby := Bd.bytes
  have hml : c.maxLocals = 6 := hml0
  have hown : s.vm.findClass "com/example/once_guard/onceguard/ClaimResultInProgressPinLaw" = some m.cls := findClass_of_methodNamed Bd.named
  have hnm := (name_of_methodNamed Bd.named Bd.method).1
  have hlk : meth.locks = false := BodyLoose.notSynchronized Bd
  have hret := Bd.returns
  have X0 : Stand p l e ({ frames := 0, cells := 0, slots := 0, locals := 0 } : Room) s m #[(.ref a1), (.int (0 : Int32)), (.int v0), (.int v1), (.int v2), (.int v3)] below meth c s₁ [] 0 0 := Stand.of_body Bd
  have e0 : s₁.heap = h0 := by rw [← hh, Bd.state]; rfl
  have N0 := Fr.nil n0
  refine ogo (U' := s₁.setTop (mkF m 0 #[.val (.ref a1), .val (.int (0 : Int32)), .val (.int v0), .val (.int v1), .val (.int v2), .val (.int v3)] [])) (Q := Q60 Z a1 v0 v1 v2 v3 h0 n0) (K := ({ frames := 0, cells := 0, slots := 0, locals := 0 } : Room).cells) (N := ({ frames := 0, cells := 0, slots := 0, locals := 0 } : Room).slots) (fun t k => castTop (ef_60 m a1 (0 : Int32) v0 v1 v2 v3) k) ?_
  show OwnEnds _ _ _ _ _ _ _ (s₁.setTop (mkF m 0 #[.val (.ref a1), .val (.int (0 : Int32)), .val (.int v0), .val (.int v1), .val (.int v2), .val (.int v3)] []))
  refine ogo (fun t k => XS.aloadN X0.here hx rfl (hb hby d60_0) rfl rfl k) ?_
  show OwnEnds _ _ _ _ _ _ _ (s₁.setTop (mkF m 1 #[.val (.ref a1), .val (.int (0 : Int32)), .val (.int v0), .val (.int v1), .val (.int v2), .val (.int v3)] [(.ref a1)]))
  refine ogo (fun t k => XS.ifnullNo X0.here hx rfl (hb hby d60_1) rfl k) ?_
  show OwnEnds _ _ _ _ _ _ _ (s₁.setTop (mkF m 4 #[.val (.ref a1), .val (.int (0 : Int32)), .val (.int v0), .val (.int v1), .val (.int v2), .val (.int v3)] []))
  refine ogo (fun t k => XS.aloadN X0.here hx rfl (hb hby d60_4) rfl rfl k) ?_
  show OwnEnds _ _ _ _ _ _ _ (s₁.setTop (mkF m 5 #[.val (.ref a1), .val (.int (0 : Int32)), .val (.int v0), .val (.int v1), .val (.int v2), .val (.int v3)] [(.ref a1)]))
  obtain ⟨ak1, cl1, Ar1, Aq1, As1, An1, Ah1, Ag1⟩ := id V_1
  refine ogo (fun t k => X0.arraylength hx (by rw [e0]; exact Ar1.1) (State.isArrayOf_alike hZ.alike Ar1.2.1) (g := (mkF m 5 #[.val (.ref a1), .val (.int (0 : Int32)), .val (.int v0), .val (.int v1), .val (.int v2), .val (.int v3)] [(.ref a1)])) rfl rfl (hb hby d60_5) t k) ?_
  rw [len_of As1 An1]
  show OwnEnds _ _ _ _ _ _ _ (s₁.setTop (mkF m 6 #[.val (.ref a1), .val (.int (0 : Int32)), .val (.int v0), .val (.int v1), .val (.int v2), .val (.int v3)] [(.int (0 : Int32))]))
  refine ogo (fun t k => XS.iloadN X0.here hx rfl (hb hby d60_6) rfl k) ?_
  show OwnEnds _ _ _ _ _ _ _ (s₁.setTop (mkF m 7 #[.val (.ref a1), .val (.int (0 : Int32)), .val (.int v0), .val (.int v1), .val (.int v2), .val (.int v3)] [(.int (0 : Int32)), (.int (0 : Int32))]))
  refine ogo (fun t k => XS.icmpYes X0.here hx rfl (pc0 := 7) (pc' := 12) rfl (hb hby d60_7) rfl (teq (by decide : (0 : Int32) = (0 : Int32))).1 (by decide) (by decide) k) ?_
  show OwnEnds _ _ _ _ _ _ _ (s₁.setTop (mkF m 12 #[.val (.ref a1), .val (.int (0 : Int32)), .val (.int v0), .val (.int v1), .val (.int v2), .val (.int v3)] []))
  refine ogo (fun t k => XS.iloadN X0.here hx rfl (hb hby d60_12) rfl k) ?_
  show OwnEnds _ _ _ _ _ _ _ (s₁.setTop (mkF m 13 #[.val (.ref a1), .val (.int (0 : Int32)), .val (.int v0), .val (.int v1), .val (.int v2), .val (.int v3)] [(.int (0 : Int32))]))
  refine ogo (fun t k => XS.ifYes X0.here hx rfl (pc0 := 13) (pc' := 25) rfl (hb hby d60_13) rfl ((if0 _ _).trans (flt (by decide : ¬ ((0 : Int32) < (0 : Int32)))).2.2.2) (by decide) (by decide) k) ?_
  show OwnEnds _ _ _ _ _ _ _ (s₁.setTop (mkF m 25 #[.val (.ref a1), .val (.int (0 : Int32)), .val (.int v0), .val (.int v1), .val (.int v2), .val (.int v3)] []))
  refine ogo (fun t k => XS.iloadN X0.here hx rfl (hb hby d60_25) rfl k) ?_
  show OwnEnds _ _ _ _ _ _ _ (s₁.setTop (mkF m 26 #[.val (.ref a1), .val (.int (0 : Int32)), .val (.int v0), .val (.int v1), .val (.int v2), .val (.int v3)] [(.int (0 : Int32))]))
  refine ogo (fun t k => XS.iconst X0.here hx rfl (hb hby d60_26) k) ?_
  show OwnEnds _ _ _ _ _ _ _ (s₁.setTop (mkF m 27 #[.val (.ref a1), .val (.int (0 : Int32)), .val (.int v0), .val (.int v1), .val (.int v2), .val (.int v3)] [(.int (1 : Int32)), (.int (0 : Int32))]))
  refine ogo (fun t k => XS.icmpYes X0.here hx rfl (pc0 := 27) (pc' := 39) rfl (hb hby d60_27) rfl (flt (by decide : ¬ ((1 : Int32) < (0 : Int32)))).2.2.2 (by decide) (by decide) k) ?_
  show OwnEnds _ _ _ _ _ _ _ (s₁.setTop (mkF m 39 #[.val (.ref a1), .val (.int (0 : Int32)), .val (.int v0), .val (.int v1), .val (.int v2), .val (.int v3)] []))
  refine ogo (fun t k => XS.iloadN X0.here hx rfl (hb hby d60_39) rfl k) ?_
  show OwnEnds _ _ _ _ _ _ _ (s₁.setTop (mkF m 40 #[.val (.ref a1), .val (.int (0 : Int32)), .val (.int v0), .val (.int v1), .val (.int v2), .val (.int v3)] [(.int (0 : Int32))]))
  refine ogo (fun t k => XS.iconst X0.here hx rfl (hb hby d60_40) k) ?_
  show OwnEnds _ _ _ _ _ _ _ (s₁.setTop (mkF m 41 #[.val (.ref a1), .val (.int (0 : Int32)), .val (.int v0), .val (.int v1), .val (.int v2), .val (.int v3)] [(.int (2 : Int32)), (.int (0 : Int32))]))
  refine ogo (fun t k => XS.icmpYes X0.here hx rfl (pc0 := 41) (pc' := 54) rfl (hb hby d60_41) rfl (flt (by decide : ¬ ((2 : Int32) < (0 : Int32)))).2.2.2 (by decide) (by decide) k) ?_
  show OwnEnds _ _ _ _ _ _ _ (s₁.setTop (mkF m 54 #[.val (.ref a1), .val (.int (0 : Int32)), .val (.int v0), .val (.int v1), .val (.int v2), .val (.int v3)] []))
  refine ogo (fun t k => XS.iloadN X0.here hx rfl (hb hby d60_54) rfl k) ?_
  show OwnEnds _ _ _ _ _ _ _ (s₁.setTop (mkF m 55 #[.val (.ref a1), .val (.int (0 : Int32)), .val (.int v0), .val (.int v1), .val (.int v2), .val (.int v3)] [(.int (0 : Int32))]))
  refine ogo (fun t k => XS.iconst X0.here hx rfl (hb hby d60_55) k) ?_
  show OwnEnds _ _ _ _ _ _ _ (s₁.setTop (mkF m 56 #[.val (.ref a1), .val (.int (0 : Int32)), .val (.int v0), .val (.int v1), .val (.int v2), .val (.int v3)] [(.int (3 : Int32)), (.int (0 : Int32))]))
  refine ogo (fun t k => XS.icmpYes X0.here hx rfl (pc0 := 56) (pc' := 69) rfl (hb hby d60_56) rfl (flt (by decide : ¬ ((3 : Int32) < (0 : Int32)))).2.2.2 (by decide) (by decide) k) ?_
  show OwnEnds _ _ _ _ _ _ _ (s₁.setTop (mkF m 69 #[.val (.ref a1), .val (.int (0 : Int32)), .val (.int v0), .val (.int v1), .val (.int v2), .val (.int v3)] []))
  refine ogo (fun t k => XS.iconst X0.here hx rfl (hb hby d60_69) k) ?_
  show OwnEnds _ _ _ _ _ _ _ (s₁.setTop (mkF m 70 #[.val (.ref a1), .val (.int (0 : Int32)), .val (.int v0), .val (.int v1), .val (.int v2), .val (.int v3)] [(.int (1 : Int32))]))
  refine endZ X0 hx hlk hret rfl (hb hby d60_70) (by decide) (by decide) ?_
  show Q60 Z a1 v0 v1 v2 v3 h0 n0 _ s₁.heap _
  rw [e0]
  exact ⟨by simp [], N0, rfl⟩
theorem d61_0 : decode method_3_code 0 = .ok (.aload_n 0, 1) := by decide +kernel
theorem d61_1 : decode method_3_code 1 = .ok (.ifnull 9, 3) := by decide +kernel
theorem d61_4 : decode method_3_code 4 = .ok (.aload_n 0, 1) := by decide +kernel
theorem d61_5 : decode method_3_code 5 = .ok (.arraylength, 1) := by decide +kernel
theorem d61_6 : decode method_3_code 6 = .ok (.iload_n 1, 1) := by decide +kernel
theorem d61_7 : decode method_3_code 7 = .ok (.if_icmp .eq 5, 3) := by decide +kernel
theorem d61_12 : decode method_3_code 12 = .ok (.iload_n 1, 1) := by decide +kernel
theorem d61_13 : decode method_3_code 13 = .ok (.ifCond .le 12, 3) := by decide +kernel
theorem d61_16 : decode method_3_code 16 = .ok (.aload_n 0, 1) := by decide +kernel
theorem d61_17 : decode method_3_code 17 = .ok (.iconst 0, 1) := by decide +kernel
theorem d61_18 : decode method_3_code 18 = .ok (.baload, 1) := by decide +kernel
theorem d61_19 : decode method_3_code 19 = .ok (.iload_n 2, 1) := by decide +kernel
theorem d61_20 : decode method_3_code 20 = .ok (.if_icmp .eq 5, 3) := by decide +kernel
theorem d61_25 : decode method_3_code 25 = .ok (.iload_n 1, 1) := by decide +kernel
theorem d61_26 : decode method_3_code 26 = .ok (.iconst 1, 1) := by decide +kernel
theorem d61_27 : decode method_3_code 27 = .ok (.if_icmp .le 12, 3) := by decide +kernel
theorem d61_39 : decode method_3_code 39 = .ok (.iload_n 1, 1) := by decide +kernel
theorem d61_40 : decode method_3_code 40 = .ok (.iconst 2, 1) := by decide +kernel
theorem d61_41 : decode method_3_code 41 = .ok (.if_icmp .le 13, 3) := by decide +kernel
theorem d61_54 : decode method_3_code 54 = .ok (.iload_n 1, 1) := by decide +kernel
theorem d61_55 : decode method_3_code 55 = .ok (.iconst 3, 1) := by decide +kernel
theorem d61_56 : decode method_3_code 56 = .ok (.if_icmp .le 13, 3) := by decide +kernel
theorem d61_69 : decode method_3_code 69 = .ok (.iconst 1, 1) := by decide +kernel
theorem d61_70 : decode method_3_code 70 = .ok (.ireturn, 1) := by decide +kernel
theorem ef_61 (m : MethodId) (x0 : Addr) (x1 : Int32) (x2 : Int32) (x3 : Int32) (x4 : Int32) (x5 : Int32) : entryFrame m #[(.ref x0), (.int x1), (.int x2), (.int x3), (.int x4), (.int x5)] 6 = mkF m 0 #[.val (.ref x0), .val (.int x1), .val (.int x2), .val (.int x3), .val (.int x4), .val (.int x5)] [] := by first | (simp [entryFrame, mkF, argsToLocals, Value.category]; done) | rfl
def Q61 (Z : State) (a1 : Addr) (v0 v1 v2 v3 : Int32) (h0 : Heap) (n0 : Nat) (v : Option Value) (h : Heap) (L : List Loc) : Prop := v = some (.int 1) ∧ Fr n0 L ∧ h = h0
set_option maxRecDepth 65536 in
set_option maxHeartbeats 40000000 in
theorem rm61 (l : Launch) (Z : State) (a0 : Array Value) (hw : ∀ d ∈ tables_1, d.before a0 Z = true) (ws : List Jvm.Cond) (a1 : Addr) (v0 v1 v2 v3 : Int32) (h0 : Heap) (n0 : Nat) (Z0 : n0 ≤ h0.size) (V_1 : Av Z h0 a1 .byte (1 : Int32) [(.int v0)] (.int (0 : Int32))) :
    MetFree l (⟨"com/example/once_guard/onceguard/ClaimResultInProgressPinLaw", "same", "([BIBBBB)Z"⟩ : MethodName) (head1 (Jvm.Cond.code (⟨"com/example/once_guard/onceguard/ClaimResultInProgressPinLaw", "same", "([BIBBBB)Z"⟩ : MethodName) method_3_code 6 (some .boolean) :: ws) ({ frames := 0, cells := 0, slots := 0, locals := 0 } : Room)) (fun a U => a = #[(.ref a1), (.int (1 : Int32)), (.int v0), (.int v1), (.int v2), (.int v3)] ∧ Z.Warmed39 U.vm ∧ U.heap = h0) (fun _ _ _ _ _ => True) (fun _ U o U' => ∃ v L, o = .returned v ∧ Q61 Z a1 v0 v1 v2 v3 h0 n0 v U'.heap L ∧ FrameEnd U o U' L ({ frames := 0, cells := 0, slots := 0, locals := 0 } : Room).cells ({ frames := 0, cells := 0, slots := 0, locals := 0 } : Room).slots) := by
  refine MetFree.of_bodySF (plainFor_of_name pn_ClaimResultInProgressPinLaw) hisR ?_
  intro p e s m args below meth c s₁ Bd hml0 hP hK
  obtain ⟨rfl, hZ, hh⟩ := hP
  have hx := Bd.exec
  have hby := Bd.bytes
  have hml : c.maxLocals = 6 := hml0
  have hown : s.vm.findClass "com/example/once_guard/onceguard/ClaimResultInProgressPinLaw" = some m.cls := findClass_of_methodNamed Bd.named
  have hnm := (name_of_methodNamed Bd.named Bd.method).1
  have hlk : meth.locks = false := BodyLoose.notSynchronized Bd
  have hret := Bd.returns
  have X0 : Stand p l e ({ frames := 0, cells := 0, slots := 0, locals := 0 } : Room) s m #[(.ref a1), (.int (1 : Int32)), (.int v0), (.int v1), (.int v2), (.int v3)] below meth c s₁ [] 0 0 := Stand.of_body Bd
  have e0 : s₁.heap = h0 := by rw [← hh, Bd.state]; rfl
  have N0 := Fr.nil n0
  refine ogo (U' := s₁.setTop (mkF m 0 #[.val (.ref a1), .val (.int (1 : Int32)), .val (.int v0), .val (.int v1), .val (.int v2), .val (.int v3)] [])) (Q := Q61 Z a1 v0 v1 v2 v3 h0 n0) (K := ({ frames := 0, cells := 0, slots := 0, locals := 0 } : Room).cells) (N := ({ frames := 0, cells := 0, slots := 0, locals := 0 } : Room).slots) (fun t k => castTop (ef_61 m a1 (1 : Int32) v0 v1 v2 v3) k) ?_
  show OwnEnds _ _ _ _ _ _ _ (s₁.setTop (mkF m 0 #[.val (.ref a1), .val (.int (1 : Int32)), .val (.int v0), .val (.int v1), .val (.int v2), .val (.int v3)] []))
  refine ogo (fun t k => XS.aloadN X0.here hx rfl (hb hby d61_0) rfl rfl k) ?_
  show OwnEnds _ _ _ _ _ _ _ (s₁.setTop (mkF m 1 #[.val (.ref a1), .val (.int (1 : Int32)), .val (.int v0), .val (.int v1), .val (.int v2), .val (.int v3)] [(.ref a1)]))
  refine ogo (fun t k => XS.ifnullNo X0.here hx rfl (hb hby d61_1) rfl k) ?_
  show OwnEnds _ _ _ _ _ _ _ (s₁.setTop (mkF m 4 #[.val (.ref a1), .val (.int (1 : Int32)), .val (.int v0), .val (.int v1), .val (.int v2), .val (.int v3)] []))
  refine ogo (fun t k => XS.aloadN X0.here hx rfl (hb hby d61_4) rfl rfl k) ?_
  show OwnEnds _ _ _ _ _ _ _ (s₁.setTop (mkF m 5 #[.val (.ref a1), .val (.int (1 : Int32)), .val (.int v0), .val (.int v1), .val (.int v2), .val (.int v3)] [(.ref a1)]))
  obtain ⟨ak1, cl1, Ar1, Aq1, As1, An1, Ah1, Ag1⟩ := id V_1
  refine ogo (fun t k => X0.arraylength hx (by rw [e0]; exact Ar1.1) (State.isArrayOf_alike hZ.alike Ar1.2.1) (g := (mkF m 5 #[.val (.ref a1), .val (.int (1 : Int32)), .val (.int v0), .val (.int v1), .val (.int v2), .val (.int v3)] [(.ref a1)])) rfl rfl (hb hby d61_5) t k) ?_
  rw [len_of As1 An1]
  show OwnEnds _ _ _ _ _ _ _ (s₁.setTop (mkF m 6 #[.val (.ref a1), .val (.int (1 : Int32)), .val (.int v0), .val (.int v1), .val (.int v2), .val (.int v3)] [(.int (1 : Int32))]))
  refine ogo (fun t k => XS.iloadN X0.here hx rfl (hb hby d61_6) rfl k) ?_
  show OwnEnds _ _ _ _ _ _ _ (s₁.setTop (mkF m 7 #[.val (.ref a1), .val (.int (1 : Int32)), .val (.int v0), .val (.int v1), .val (.int v2), .val (.int v3)] [(.int (1 : Int32)), (.int (1 : Int32))]))
  refine ogo (fun t k => XS.icmpYes X0.here hx rfl (pc0 := 7) (pc' := 12) rfl (hb hby d61_7) rfl (teq (by decide : (1 : Int32) = (1 : Int32))).1 (by decide) (by decide) k) ?_
  show OwnEnds _ _ _ _ _ _ _ (s₁.setTop (mkF m 12 #[.val (.ref a1), .val (.int (1 : Int32)), .val (.int v0), .val (.int v1), .val (.int v2), .val (.int v3)] []))
  refine ogo (fun t k => XS.iloadN X0.here hx rfl (hb hby d61_12) rfl k) ?_
  show OwnEnds _ _ _ _ _ _ _ (s₁.setTop (mkF m 13 #[.val (.ref a1), .val (.int (1 : Int32)), .val (.int v0), .val (.int v1), .val (.int v2), .val (.int v3)] [(.int (1 : Int32))]))
  refine ogo (fun t k => XS.ifNo X0.here hx rfl (hb hby d61_13) rfl ((if0 _ _).trans (tlt (by decide : (0 : Int32) < (1 : Int32))).2.2.2) k) ?_
  show OwnEnds _ _ _ _ _ _ _ (s₁.setTop (mkF m 16 #[.val (.ref a1), .val (.int (1 : Int32)), .val (.int v0), .val (.int v1), .val (.int v2), .val (.int v3)] []))
  refine ogo (fun t k => XS.aloadN X0.here hx rfl (hb hby d61_16) rfl rfl k) ?_
  show OwnEnds _ _ _ _ _ _ _ (s₁.setTop (mkF m 17 #[.val (.ref a1), .val (.int (1 : Int32)), .val (.int v0), .val (.int v1), .val (.int v2), .val (.int v3)] [(.ref a1)]))
  refine ogo (fun t k => XS.iconst X0.here hx rfl (hb hby d61_17) k) ?_
  show OwnEnds _ _ _ _ _ _ _ (s₁.setTop (mkF m 18 #[.val (.ref a1), .val (.int (1 : Int32)), .val (.int v0), .val (.int v1), .val (.int v2), .val (.int v3)] [(.int (0 : Int32)), (.ref a1)]))
  obtain ⟨ak2, cl2, Ar2, Aq2, As2, An2, Ah2, Ag2⟩ := id V_1
  refine ogo (fun t k => X0.baloadBytes hx (j := (0 : Int32)) (v := (.int v0)) (by rw [e0]; exact Ar2.1) (State.isArrayOf_alike hZ.alike Ar2.2.1) Ar2.2.2 (inb_of As2 ⟨by decide, by decide⟩) (Ah2.at (inb_of As2 ⟨by decide, by decide⟩) rfl) (g := (mkF m 18 #[.val (.ref a1), .val (.int (1 : Int32)), .val (.int v0), .val (.int v1), .val (.int v2), .val (.int v3)] [(.int (0 : Int32)), (.ref a1)])) rfl rfl (hb hby d61_18) t k) ?_
  show OwnEnds _ _ _ _ _ _ _ (s₁.setTop (mkF m 19 #[.val (.ref a1), .val (.int (1 : Int32)), .val (.int v0), .val (.int v1), .val (.int v2), .val (.int v3)] [(.int v0)]))
  refine ogo (fun t k => XS.iloadN X0.here hx rfl (hb hby d61_19) rfl k) ?_
  show OwnEnds _ _ _ _ _ _ _ (s₁.setTop (mkF m 20 #[.val (.ref a1), .val (.int (1 : Int32)), .val (.int v0), .val (.int v1), .val (.int v2), .val (.int v3)] [(.int v0), (.int v0)]))
  refine ogo (fun t k => XS.icmpYes X0.here hx rfl (pc0 := 20) (pc' := 25) rfl (hb hby d61_20) rfl (teq (rfl : v0 = v0)).1 (by decide) (by decide) k) ?_
  show OwnEnds _ _ _ _ _ _ _ (s₁.setTop (mkF m 25 #[.val (.ref a1), .val (.int (1 : Int32)), .val (.int v0), .val (.int v1), .val (.int v2), .val (.int v3)] []))
  refine ogo (fun t k => XS.iloadN X0.here hx rfl (hb hby d61_25) rfl k) ?_
  show OwnEnds _ _ _ _ _ _ _ (s₁.setTop (mkF m 26 #[.val (.ref a1), .val (.int (1 : Int32)), .val (.int v0), .val (.int v1), .val (.int v2), .val (.int v3)] [(.int (1 : Int32))]))
  refine ogo (fun t k => XS.iconst X0.here hx rfl (hb hby d61_26) k) ?_
  show OwnEnds _ _ _ _ _ _ _ (s₁.setTop (mkF m 27 #[.val (.ref a1), .val (.int (1 : Int32)), .val (.int v0), .val (.int v1), .val (.int v2), .val (.int v3)] [(.int (1 : Int32)), (.int (1 : Int32))]))
  refine ogo (fun t k => XS.icmpYes X0.here hx rfl (pc0 := 27) (pc' := 39) rfl (hb hby d61_27) rfl (flt (by decide : ¬ ((1 : Int32) < (1 : Int32)))).2.2.2 (by decide) (by decide) k) ?_
  show OwnEnds _ _ _ _ _ _ _ (s₁.setTop (mkF m 39 #[.val (.ref a1), .val (.int (1 : Int32)), .val (.int v0), .val (.int v1), .val (.int v2), .val (.int v3)] []))
  refine ogo (fun t k => XS.iloadN X0.here hx rfl (hb hby d61_39) rfl k) ?_
  show OwnEnds _ _ _ _ _ _ _ (s₁.setTop (mkF m 40 #[.val (.ref a1), .val (.int (1 : Int32)), .val (.int v0), .val (.int v1), .val (.int v2), .val (.int v3)] [(.int (1 : Int32))]))
  refine ogo (fun t k => XS.iconst X0.here hx rfl (hb hby d61_40) k) ?_
  show OwnEnds _ _ _ _ _ _ _ (s₁.setTop (mkF m 41 #[.val (.ref a1), .val (.int (1 : Int32)), .val (.int v0), .val (.int v1), .val (.int v2), .val (.int v3)] [(.int (2 : Int32)), (.int (1 : Int32))]))
  refine ogo (fun t k => XS.icmpYes X0.here hx rfl (pc0 := 41) (pc' := 54) rfl (hb hby d61_41) rfl (flt (by decide : ¬ ((2 : Int32) < (1 : Int32)))).2.2.2 (by decide) (by decide) k) ?_
  show OwnEnds _ _ _ _ _ _ _ (s₁.setTop (mkF m 54 #[.val (.ref a1), .val (.int (1 : Int32)), .val (.int v0), .val (.int v1), .val (.int v2), .val (.int v3)] []))
  refine ogo (fun t k => XS.iloadN X0.here hx rfl (hb hby d61_54) rfl k) ?_
  show OwnEnds _ _ _ _ _ _ _ (s₁.setTop (mkF m 55 #[.val (.ref a1), .val (.int (1 : Int32)), .val (.int v0), .val (.int v1), .val (.int v2), .val (.int v3)] [(.int (1 : Int32))]))
  refine ogo (fun t k => XS.iconst X0.here hx rfl (hb hby d61_55) k) ?_
  show OwnEnds _ _ _ _ _ _ _ (s₁.setTop (mkF m 56 #[.val (.ref a1), .val (.int (1 : Int32)), .val (.int v0), .val (.int v1), .val (.int v2), .val (.int v3)] [(.int (3 : Int32)), (.int (1 : Int32))]))
  refine ogo (fun t k => XS.icmpYes X0.here hx rfl (pc0 := 56) (pc' := 69) rfl (hb hby d61_56) rfl (flt (by decide : ¬ ((3 : Int32) < (1 : Int32)))).2.2.2 (by decide) (by decide) k) ?_
  show OwnEnds _ _ _ _ _ _ _ (s₁.setTop (mkF m 69 #[.val (.ref a1), .val (.int (1 : Int32)), .val (.int v0), .val (.int v1), .val (.int v2), .val (.int v3)] []))
  refine ogo (fun t k => XS.iconst X0.here hx rfl (hb hby d61_69) k) ?_
  show OwnEnds _ _ _ _ _ _ _ (s₁.setTop (mkF m 70 #[.val (.ref a1), .val (.int (1 : Int32)), .val (.int v0), .val (.int v1), .val (.int v2), .val (.int v3)] [(.int (1 : Int32))]))
  refine endZ X0 hx hlk hret rfl (hb hby d61_70) (by decide) (by decide) ?_
  show Q61 Z a1 v0 v1 v2 v3 h0 n0 _ s₁.heap _
  rw [e0]
  exact ⟨by simp [], N0, rfl⟩
theorem d62_0 : decode method_3_code 0 = .ok (.aload_n 0, 1) := by decide +kernel
theorem d62_1 : decode method_3_code 1 = .ok (.ifnull 9, 3) := by decide +kernel
theorem d62_4 : decode method_3_code 4 = .ok (.aload_n 0, 1) := by decide +kernel
theorem d62_5 : decode method_3_code 5 = .ok (.arraylength, 1) := by decide +kernel
theorem d62_6 : decode method_3_code 6 = .ok (.iload_n 1, 1) := by decide +kernel
theorem d62_7 : decode method_3_code 7 = .ok (.if_icmp .eq 5, 3) := by decide +kernel
theorem d62_12 : decode method_3_code 12 = .ok (.iload_n 1, 1) := by decide +kernel
theorem d62_13 : decode method_3_code 13 = .ok (.ifCond .le 12, 3) := by decide +kernel
theorem d62_16 : decode method_3_code 16 = .ok (.aload_n 0, 1) := by decide +kernel
theorem d62_17 : decode method_3_code 17 = .ok (.iconst 0, 1) := by decide +kernel
theorem d62_18 : decode method_3_code 18 = .ok (.baload, 1) := by decide +kernel
theorem d62_19 : decode method_3_code 19 = .ok (.iload_n 2, 1) := by decide +kernel
theorem d62_20 : decode method_3_code 20 = .ok (.if_icmp .eq 5, 3) := by decide +kernel
theorem d62_25 : decode method_3_code 25 = .ok (.iload_n 1, 1) := by decide +kernel
theorem d62_26 : decode method_3_code 26 = .ok (.iconst 1, 1) := by decide +kernel
theorem d62_27 : decode method_3_code 27 = .ok (.if_icmp .le 12, 3) := by decide +kernel
theorem d62_30 : decode method_3_code 30 = .ok (.aload_n 0, 1) := by decide +kernel
theorem d62_31 : decode method_3_code 31 = .ok (.iconst 1, 1) := by decide +kernel
theorem d62_32 : decode method_3_code 32 = .ok (.baload, 1) := by decide +kernel
theorem d62_33 : decode method_3_code 33 = .ok (.iload_n 3, 1) := by decide +kernel
theorem d62_34 : decode method_3_code 34 = .ok (.if_icmp .eq 5, 3) := by decide +kernel
theorem d62_39 : decode method_3_code 39 = .ok (.iload_n 1, 1) := by decide +kernel
theorem d62_40 : decode method_3_code 40 = .ok (.iconst 2, 1) := by decide +kernel
theorem d62_41 : decode method_3_code 41 = .ok (.if_icmp .le 13, 3) := by decide +kernel
theorem d62_54 : decode method_3_code 54 = .ok (.iload_n 1, 1) := by decide +kernel
theorem d62_55 : decode method_3_code 55 = .ok (.iconst 3, 1) := by decide +kernel
theorem d62_56 : decode method_3_code 56 = .ok (.if_icmp .le 13, 3) := by decide +kernel
theorem d62_69 : decode method_3_code 69 = .ok (.iconst 1, 1) := by decide +kernel
theorem d62_70 : decode method_3_code 70 = .ok (.ireturn, 1) := by decide +kernel
theorem ef_62 (m : MethodId) (x0 : Addr) (x1 : Int32) (x2 : Int32) (x3 : Int32) (x4 : Int32) (x5 : Int32) : entryFrame m #[(.ref x0), (.int x1), (.int x2), (.int x3), (.int x4), (.int x5)] 6 = mkF m 0 #[.val (.ref x0), .val (.int x1), .val (.int x2), .val (.int x3), .val (.int x4), .val (.int x5)] [] := by first | (simp [entryFrame, mkF, argsToLocals, Value.category]; done) | rfl
def Q62 (Z : State) (a1 : Addr) (v0 v1 v2 v3 : Int32) (h0 : Heap) (n0 : Nat) (v : Option Value) (h : Heap) (L : List Loc) : Prop := v = some (.int 1) ∧ Fr n0 L ∧ h = h0
set_option maxRecDepth 65536 in
set_option maxHeartbeats 40000000 in
theorem rm62 (l : Launch) (Z : State) (a0 : Array Value) (hw : ∀ d ∈ tables_1, d.before a0 Z = true) (ws : List Jvm.Cond) (a1 : Addr) (v0 v1 v2 v3 : Int32) (h0 : Heap) (n0 : Nat) (Z0 : n0 ≤ h0.size) (V_1 : Av Z h0 a1 .byte (2 : Int32) [(.int v0), (.int v1)] (.int (0 : Int32))) :
    MetFree l (⟨"com/example/once_guard/onceguard/ClaimResultInProgressPinLaw", "same", "([BIBBBB)Z"⟩ : MethodName) (head1 (Jvm.Cond.code (⟨"com/example/once_guard/onceguard/ClaimResultInProgressPinLaw", "same", "([BIBBBB)Z"⟩ : MethodName) method_3_code 6 (some .boolean) :: ws) ({ frames := 0, cells := 0, slots := 0, locals := 0 } : Room)) (fun a U => a = #[(.ref a1), (.int (2 : Int32)), (.int v0), (.int v1), (.int v2), (.int v3)] ∧ Z.Warmed39 U.vm ∧ U.heap = h0) (fun _ _ _ _ _ => True) (fun _ U o U' => ∃ v L, o = .returned v ∧ Q62 Z a1 v0 v1 v2 v3 h0 n0 v U'.heap L ∧ FrameEnd U o U' L ({ frames := 0, cells := 0, slots := 0, locals := 0 } : Room).cells ({ frames := 0, cells := 0, slots := 0, locals := 0 } : Room).slots) := by
  refine MetFree.of_bodySF (plainFor_of_name pn_ClaimResultInProgressPinLaw) hisR ?_
  intro p e s m args below meth c s₁ Bd hml0 hP hK
  obtain ⟨rfl, hZ, hh⟩ := hP
  have hx := Bd.exec
  have hby := Bd.bytes
  have hml : c.maxLocals = 6 := hml0
  have hown : s.vm.findClass "com/example/once_guard/onceguard/ClaimResultInProgressPinLaw" = some m.cls := findClass_of_methodNamed Bd.named
  have hnm := (name_of_methodNamed Bd.named Bd.method).1
  have hlk : meth.locks = false := BodyLoose.notSynchronized Bd
  have hret := Bd.returns
  have X0 : Stand p l e ({ frames := 0, cells := 0, slots := 0, locals := 0 } : Room) s m #[(.ref a1), (.int (2 : Int32)), (.int v0), (.int v1), (.int v2), (.int v3)] below meth c s₁ [] 0 0 := Stand.of_body Bd
  have e0 : s₁.heap = h0 := by rw [← hh, Bd.state]; rfl
  have N0 := Fr.nil n0
  refine ogo (U' := s₁.setTop (mkF m 0 #[.val (.ref a1), .val (.int (2 : Int32)), .val (.int v0), .val (.int v1), .val (.int v2), .val (.int v3)] [])) (Q := Q62 Z a1 v0 v1 v2 v3 h0 n0) (K := ({ frames := 0, cells := 0, slots := 0, locals := 0 } : Room).cells) (N := ({ frames := 0, cells := 0, slots := 0, locals := 0 } : Room).slots) (fun t k => castTop (ef_62 m a1 (2 : Int32) v0 v1 v2 v3) k) ?_
  show OwnEnds _ _ _ _ _ _ _ (s₁.setTop (mkF m 0 #[.val (.ref a1), .val (.int (2 : Int32)), .val (.int v0), .val (.int v1), .val (.int v2), .val (.int v3)] []))
  refine ogo (fun t k => XS.aloadN X0.here hx rfl (hb hby d62_0) rfl rfl k) ?_
  show OwnEnds _ _ _ _ _ _ _ (s₁.setTop (mkF m 1 #[.val (.ref a1), .val (.int (2 : Int32)), .val (.int v0), .val (.int v1), .val (.int v2), .val (.int v3)] [(.ref a1)]))
  refine ogo (fun t k => XS.ifnullNo X0.here hx rfl (hb hby d62_1) rfl k) ?_
  show OwnEnds _ _ _ _ _ _ _ (s₁.setTop (mkF m 4 #[.val (.ref a1), .val (.int (2 : Int32)), .val (.int v0), .val (.int v1), .val (.int v2), .val (.int v3)] []))
  refine ogo (fun t k => XS.aloadN X0.here hx rfl (hb hby d62_4) rfl rfl k) ?_
  show OwnEnds _ _ _ _ _ _ _ (s₁.setTop (mkF m 5 #[.val (.ref a1), .val (.int (2 : Int32)), .val (.int v0), .val (.int v1), .val (.int v2), .val (.int v3)] [(.ref a1)]))
  obtain ⟨ak1, cl1, Ar1, Aq1, As1, An1, Ah1, Ag1⟩ := id V_1
  refine ogo (fun t k => X0.arraylength hx (by rw [e0]; exact Ar1.1) (State.isArrayOf_alike hZ.alike Ar1.2.1) (g := (mkF m 5 #[.val (.ref a1), .val (.int (2 : Int32)), .val (.int v0), .val (.int v1), .val (.int v2), .val (.int v3)] [(.ref a1)])) rfl rfl (hb hby d62_5) t k) ?_
  rw [len_of As1 An1]
  show OwnEnds _ _ _ _ _ _ _ (s₁.setTop (mkF m 6 #[.val (.ref a1), .val (.int (2 : Int32)), .val (.int v0), .val (.int v1), .val (.int v2), .val (.int v3)] [(.int (2 : Int32))]))
  refine ogo (fun t k => XS.iloadN X0.here hx rfl (hb hby d62_6) rfl k) ?_
  show OwnEnds _ _ _ _ _ _ _ (s₁.setTop (mkF m 7 #[.val (.ref a1), .val (.int (2 : Int32)), .val (.int v0), .val (.int v1), .val (.int v2), .val (.int v3)] [(.int (2 : Int32)), (.int (2 : Int32))]))
  refine ogo (fun t k => XS.icmpYes X0.here hx rfl (pc0 := 7) (pc' := 12) rfl (hb hby d62_7) rfl (teq (by decide : (2 : Int32) = (2 : Int32))).1 (by decide) (by decide) k) ?_
  show OwnEnds _ _ _ _ _ _ _ (s₁.setTop (mkF m 12 #[.val (.ref a1), .val (.int (2 : Int32)), .val (.int v0), .val (.int v1), .val (.int v2), .val (.int v3)] []))
  refine ogo (fun t k => XS.iloadN X0.here hx rfl (hb hby d62_12) rfl k) ?_
  show OwnEnds _ _ _ _ _ _ _ (s₁.setTop (mkF m 13 #[.val (.ref a1), .val (.int (2 : Int32)), .val (.int v0), .val (.int v1), .val (.int v2), .val (.int v3)] [(.int (2 : Int32))]))
  refine ogo (fun t k => XS.ifNo X0.here hx rfl (hb hby d62_13) rfl ((if0 _ _).trans (tlt (by decide : (0 : Int32) < (2 : Int32))).2.2.2) k) ?_
  show OwnEnds _ _ _ _ _ _ _ (s₁.setTop (mkF m 16 #[.val (.ref a1), .val (.int (2 : Int32)), .val (.int v0), .val (.int v1), .val (.int v2), .val (.int v3)] []))
  refine ogo (fun t k => XS.aloadN X0.here hx rfl (hb hby d62_16) rfl rfl k) ?_
  show OwnEnds _ _ _ _ _ _ _ (s₁.setTop (mkF m 17 #[.val (.ref a1), .val (.int (2 : Int32)), .val (.int v0), .val (.int v1), .val (.int v2), .val (.int v3)] [(.ref a1)]))
  refine ogo (fun t k => XS.iconst X0.here hx rfl (hb hby d62_17) k) ?_
  show OwnEnds _ _ _ _ _ _ _ (s₁.setTop (mkF m 18 #[.val (.ref a1), .val (.int (2 : Int32)), .val (.int v0), .val (.int v1), .val (.int v2), .val (.int v3)] [(.int (0 : Int32)), (.ref a1)]))
  obtain ⟨ak2, cl2, Ar2, Aq2, As2, An2, Ah2, Ag2⟩ := id V_1
  refine ogo (fun t k => X0.baloadBytes hx (j := (0 : Int32)) (v := (.int v0)) (by rw [e0]; exact Ar2.1) (State.isArrayOf_alike hZ.alike Ar2.2.1) Ar2.2.2 (inb_of As2 ⟨by decide, by decide⟩) (Ah2.at (inb_of As2 ⟨by decide, by decide⟩) rfl) (g := (mkF m 18 #[.val (.ref a1), .val (.int (2 : Int32)), .val (.int v0), .val (.int v1), .val (.int v2), .val (.int v3)] [(.int (0 : Int32)), (.ref a1)])) rfl rfl (hb hby d62_18) t k) ?_
  show OwnEnds _ _ _ _ _ _ _ (s₁.setTop (mkF m 19 #[.val (.ref a1), .val (.int (2 : Int32)), .val (.int v0), .val (.int v1), .val (.int v2), .val (.int v3)] [(.int v0)]))
  refine ogo (fun t k => XS.iloadN X0.here hx rfl (hb hby d62_19) rfl k) ?_
  show OwnEnds _ _ _ _ _ _ _ (s₁.setTop (mkF m 20 #[.val (.ref a1), .val (.int (2 : Int32)), .val (.int v0), .val (.int v1), .val (.int v2), .val (.int v3)] [(.int v0), (.int v0)]))
  refine ogo (fun t k => XS.icmpYes X0.here hx rfl (pc0 := 20) (pc' := 25) rfl (hb hby d62_20) rfl (teq (rfl : v0 = v0)).1 (by decide) (by decide) k) ?_
  show OwnEnds _ _ _ _ _ _ _ (s₁.setTop (mkF m 25 #[.val (.ref a1), .val (.int (2 : Int32)), .val (.int v0), .val (.int v1), .val (.int v2), .val (.int v3)] []))
  refine ogo (fun t k => XS.iloadN X0.here hx rfl (hb hby d62_25) rfl k) ?_
  show OwnEnds _ _ _ _ _ _ _ (s₁.setTop (mkF m 26 #[.val (.ref a1), .val (.int (2 : Int32)), .val (.int v0), .val (.int v1), .val (.int v2), .val (.int v3)] [(.int (2 : Int32))]))
  refine ogo (fun t k => XS.iconst X0.here hx rfl (hb hby d62_26) k) ?_
  show OwnEnds _ _ _ _ _ _ _ (s₁.setTop (mkF m 27 #[.val (.ref a1), .val (.int (2 : Int32)), .val (.int v0), .val (.int v1), .val (.int v2), .val (.int v3)] [(.int (1 : Int32)), (.int (2 : Int32))]))
  refine ogo (fun t k => XS.icmpNo X0.here hx rfl (hb hby d62_27) rfl (tlt (by decide : (1 : Int32) < (2 : Int32))).2.2.2 k) ?_
  show OwnEnds _ _ _ _ _ _ _ (s₁.setTop (mkF m 30 #[.val (.ref a1), .val (.int (2 : Int32)), .val (.int v0), .val (.int v1), .val (.int v2), .val (.int v3)] []))
  refine ogo (fun t k => XS.aloadN X0.here hx rfl (hb hby d62_30) rfl rfl k) ?_
  show OwnEnds _ _ _ _ _ _ _ (s₁.setTop (mkF m 31 #[.val (.ref a1), .val (.int (2 : Int32)), .val (.int v0), .val (.int v1), .val (.int v2), .val (.int v3)] [(.ref a1)]))
  refine ogo (fun t k => XS.iconst X0.here hx rfl (hb hby d62_31) k) ?_
  show OwnEnds _ _ _ _ _ _ _ (s₁.setTop (mkF m 32 #[.val (.ref a1), .val (.int (2 : Int32)), .val (.int v0), .val (.int v1), .val (.int v2), .val (.int v3)] [(.int (1 : Int32)), (.ref a1)]))
  obtain ⟨ak3, cl3, Ar3, Aq3, As3, An3, Ah3, Ag3⟩ := id V_1
  refine ogo (fun t k => X0.baloadBytes hx (j := (1 : Int32)) (v := (.int v1)) (by rw [e0]; exact Ar3.1) (State.isArrayOf_alike hZ.alike Ar3.2.1) Ar3.2.2 (inb_of As3 ⟨by decide, by decide⟩) (Ah3.at (inb_of As3 ⟨by decide, by decide⟩) rfl) (g := (mkF m 32 #[.val (.ref a1), .val (.int (2 : Int32)), .val (.int v0), .val (.int v1), .val (.int v2), .val (.int v3)] [(.int (1 : Int32)), (.ref a1)])) rfl rfl (hb hby d62_32) t k) ?_
  show OwnEnds _ _ _ _ _ _ _ (s₁.setTop (mkF m 33 #[.val (.ref a1), .val (.int (2 : Int32)), .val (.int v0), .val (.int v1), .val (.int v2), .val (.int v3)] [(.int v1)]))
  refine ogo (fun t k => XS.iloadN X0.here hx rfl (hb hby d62_33) rfl k) ?_
  show OwnEnds _ _ _ _ _ _ _ (s₁.setTop (mkF m 34 #[.val (.ref a1), .val (.int (2 : Int32)), .val (.int v0), .val (.int v1), .val (.int v2), .val (.int v3)] [(.int v1), (.int v1)]))
  refine ogo (fun t k => XS.icmpYes X0.here hx rfl (pc0 := 34) (pc' := 39) rfl (hb hby d62_34) rfl (teq (rfl : v1 = v1)).1 (by decide) (by decide) k) ?_
  show OwnEnds _ _ _ _ _ _ _ (s₁.setTop (mkF m 39 #[.val (.ref a1), .val (.int (2 : Int32)), .val (.int v0), .val (.int v1), .val (.int v2), .val (.int v3)] []))
  refine ogo (fun t k => XS.iloadN X0.here hx rfl (hb hby d62_39) rfl k) ?_
  show OwnEnds _ _ _ _ _ _ _ (s₁.setTop (mkF m 40 #[.val (.ref a1), .val (.int (2 : Int32)), .val (.int v0), .val (.int v1), .val (.int v2), .val (.int v3)] [(.int (2 : Int32))]))
  refine ogo (fun t k => XS.iconst X0.here hx rfl (hb hby d62_40) k) ?_
  show OwnEnds _ _ _ _ _ _ _ (s₁.setTop (mkF m 41 #[.val (.ref a1), .val (.int (2 : Int32)), .val (.int v0), .val (.int v1), .val (.int v2), .val (.int v3)] [(.int (2 : Int32)), (.int (2 : Int32))]))
  refine ogo (fun t k => XS.icmpYes X0.here hx rfl (pc0 := 41) (pc' := 54) rfl (hb hby d62_41) rfl (flt (by decide : ¬ ((2 : Int32) < (2 : Int32)))).2.2.2 (by decide) (by decide) k) ?_
  show OwnEnds _ _ _ _ _ _ _ (s₁.setTop (mkF m 54 #[.val (.ref a1), .val (.int (2 : Int32)), .val (.int v0), .val (.int v1), .val (.int v2), .val (.int v3)] []))
  refine ogo (fun t k => XS.iloadN X0.here hx rfl (hb hby d62_54) rfl k) ?_
  show OwnEnds _ _ _ _ _ _ _ (s₁.setTop (mkF m 55 #[.val (.ref a1), .val (.int (2 : Int32)), .val (.int v0), .val (.int v1), .val (.int v2), .val (.int v3)] [(.int (2 : Int32))]))
  refine ogo (fun t k => XS.iconst X0.here hx rfl (hb hby d62_55) k) ?_
  show OwnEnds _ _ _ _ _ _ _ (s₁.setTop (mkF m 56 #[.val (.ref a1), .val (.int (2 : Int32)), .val (.int v0), .val (.int v1), .val (.int v2), .val (.int v3)] [(.int (3 : Int32)), (.int (2 : Int32))]))
  refine ogo (fun t k => XS.icmpYes X0.here hx rfl (pc0 := 56) (pc' := 69) rfl (hb hby d62_56) rfl (flt (by decide : ¬ ((3 : Int32) < (2 : Int32)))).2.2.2 (by decide) (by decide) k) ?_
  show OwnEnds _ _ _ _ _ _ _ (s₁.setTop (mkF m 69 #[.val (.ref a1), .val (.int (2 : Int32)), .val (.int v0), .val (.int v1), .val (.int v2), .val (.int v3)] []))
  refine ogo (fun t k => XS.iconst X0.here hx rfl (hb hby d62_69) k) ?_
  show OwnEnds _ _ _ _ _ _ _ (s₁.setTop (mkF m 70 #[.val (.ref a1), .val (.int (2 : Int32)), .val (.int v0), .val (.int v1), .val (.int v2), .val (.int v3)] [(.int (1 : Int32))]))
  refine endZ X0 hx hlk hret rfl (hb hby d62_70) (by decide) (by decide) ?_
  show Q62 Z a1 v0 v1 v2 v3 h0 n0 _ s₁.heap _
  rw [e0]
  exact ⟨by simp [], N0, rfl⟩
theorem d63_0 : decode method_3_code 0 = .ok (.aload_n 0, 1) := by decide +kernel
theorem d63_1 : decode method_3_code 1 = .ok (.ifnull 9, 3) := by decide +kernel
theorem d63_4 : decode method_3_code 4 = .ok (.aload_n 0, 1) := by decide +kernel
theorem d63_5 : decode method_3_code 5 = .ok (.arraylength, 1) := by decide +kernel
theorem d63_6 : decode method_3_code 6 = .ok (.iload_n 1, 1) := by decide +kernel
theorem d63_7 : decode method_3_code 7 = .ok (.if_icmp .eq 5, 3) := by decide +kernel
theorem d63_12 : decode method_3_code 12 = .ok (.iload_n 1, 1) := by decide +kernel
theorem d63_13 : decode method_3_code 13 = .ok (.ifCond .le 12, 3) := by decide +kernel
theorem d63_16 : decode method_3_code 16 = .ok (.aload_n 0, 1) := by decide +kernel
theorem d63_17 : decode method_3_code 17 = .ok (.iconst 0, 1) := by decide +kernel
theorem d63_18 : decode method_3_code 18 = .ok (.baload, 1) := by decide +kernel
theorem d63_19 : decode method_3_code 19 = .ok (.iload_n 2, 1) := by decide +kernel
theorem d63_20 : decode method_3_code 20 = .ok (.if_icmp .eq 5, 3) := by decide +kernel
theorem d63_25 : decode method_3_code 25 = .ok (.iload_n 1, 1) := by decide +kernel
theorem d63_26 : decode method_3_code 26 = .ok (.iconst 1, 1) := by decide +kernel
theorem d63_27 : decode method_3_code 27 = .ok (.if_icmp .le 12, 3) := by decide +kernel
theorem d63_30 : decode method_3_code 30 = .ok (.aload_n 0, 1) := by decide +kernel
theorem d63_31 : decode method_3_code 31 = .ok (.iconst 1, 1) := by decide +kernel
theorem d63_32 : decode method_3_code 32 = .ok (.baload, 1) := by decide +kernel
theorem d63_33 : decode method_3_code 33 = .ok (.iload_n 3, 1) := by decide +kernel
theorem d63_34 : decode method_3_code 34 = .ok (.if_icmp .eq 5, 3) := by decide +kernel
theorem d63_39 : decode method_3_code 39 = .ok (.iload_n 1, 1) := by decide +kernel
theorem d63_40 : decode method_3_code 40 = .ok (.iconst 2, 1) := by decide +kernel
theorem d63_41 : decode method_3_code 41 = .ok (.if_icmp .le 13, 3) := by decide +kernel
theorem d63_44 : decode method_3_code 44 = .ok (.aload_n 0, 1) := by decide +kernel
theorem d63_45 : decode method_3_code 45 = .ok (.iconst 2, 1) := by decide +kernel
theorem d63_46 : decode method_3_code 46 = .ok (.baload, 1) := by decide +kernel
theorem d63_47 : decode method_3_code 47 = .ok (.iload 4, 2) := by decide +kernel
theorem d63_49 : decode method_3_code 49 = .ok (.if_icmp .eq 5, 3) := by decide +kernel
theorem d63_54 : decode method_3_code 54 = .ok (.iload_n 1, 1) := by decide +kernel
theorem d63_55 : decode method_3_code 55 = .ok (.iconst 3, 1) := by decide +kernel
theorem d63_56 : decode method_3_code 56 = .ok (.if_icmp .le 13, 3) := by decide +kernel
theorem d63_69 : decode method_3_code 69 = .ok (.iconst 1, 1) := by decide +kernel
theorem d63_70 : decode method_3_code 70 = .ok (.ireturn, 1) := by decide +kernel
theorem ef_63 (m : MethodId) (x0 : Addr) (x1 : Int32) (x2 : Int32) (x3 : Int32) (x4 : Int32) (x5 : Int32) : entryFrame m #[(.ref x0), (.int x1), (.int x2), (.int x3), (.int x4), (.int x5)] 6 = mkF m 0 #[.val (.ref x0), .val (.int x1), .val (.int x2), .val (.int x3), .val (.int x4), .val (.int x5)] [] := by first | (simp [entryFrame, mkF, argsToLocals, Value.category]; done) | rfl
def Q63 (Z : State) (a1 : Addr) (v0 v1 v2 v3 : Int32) (h0 : Heap) (n0 : Nat) (v : Option Value) (h : Heap) (L : List Loc) : Prop := v = some (.int 1) ∧ Fr n0 L ∧ h = h0
set_option maxRecDepth 65536 in
set_option maxHeartbeats 40000000 in
theorem rm63 (l : Launch) (Z : State) (a0 : Array Value) (hw : ∀ d ∈ tables_1, d.before a0 Z = true) (ws : List Jvm.Cond) (a1 : Addr) (v0 v1 v2 v3 : Int32) (h0 : Heap) (n0 : Nat) (Z0 : n0 ≤ h0.size) (V_1 : Av Z h0 a1 .byte (3 : Int32) [(.int v0), (.int v1), (.int v2)] (.int (0 : Int32))) :
    MetFree l (⟨"com/example/once_guard/onceguard/ClaimResultInProgressPinLaw", "same", "([BIBBBB)Z"⟩ : MethodName) (head1 (Jvm.Cond.code (⟨"com/example/once_guard/onceguard/ClaimResultInProgressPinLaw", "same", "([BIBBBB)Z"⟩ : MethodName) method_3_code 6 (some .boolean) :: ws) ({ frames := 0, cells := 0, slots := 0, locals := 0 } : Room)) (fun a U => a = #[(.ref a1), (.int (3 : Int32)), (.int v0), (.int v1), (.int v2), (.int v3)] ∧ Z.Warmed39 U.vm ∧ U.heap = h0) (fun _ _ _ _ _ => True) (fun _ U o U' => ∃ v L, o = .returned v ∧ Q63 Z a1 v0 v1 v2 v3 h0 n0 v U'.heap L ∧ FrameEnd U o U' L ({ frames := 0, cells := 0, slots := 0, locals := 0 } : Room).cells ({ frames := 0, cells := 0, slots := 0, locals := 0 } : Room).slots) := by
  refine MetFree.of_bodySF (plainFor_of_name pn_ClaimResultInProgressPinLaw) hisR ?_
  intro p e s m args below meth c s₁ Bd hml0 hP hK
  obtain ⟨rfl, hZ, hh⟩ := hP
  have hx := Bd.exec
  have hby := Bd.bytes
  have hml : c.maxLocals = 6 := hml0
  have hown : s.vm.findClass "com/example/once_guard/onceguard/ClaimResultInProgressPinLaw" = some m.cls := findClass_of_methodNamed Bd.named
  have hnm := (name_of_methodNamed Bd.named Bd.method).1
  have hlk : meth.locks = false := BodyLoose.notSynchronized Bd
  have hret := Bd.returns
  have X0 : Stand p l e ({ frames := 0, cells := 0, slots := 0, locals := 0 } : Room) s m #[(.ref a1), (.int (3 : Int32)), (.int v0), (.int v1), (.int v2), (.int v3)] below meth c s₁ [] 0 0 := Stand.of_body Bd
  have e0 : s₁.heap = h0 := by rw [← hh, Bd.state]; rfl
  have N0 := Fr.nil n0
  refine ogo (U' := s₁.setTop (mkF m 0 #[.val (.ref a1), .val (.int (3 : Int32)), .val (.int v0), .val (.int v1), .val (.int v2), .val (.int v3)] [])) (Q := Q63 Z a1 v0 v1 v2 v3 h0 n0) (K := ({ frames := 0, cells := 0, slots := 0, locals := 0 } : Room).cells) (N := ({ frames := 0, cells := 0, slots := 0, locals := 0 } : Room).slots) (fun t k => castTop (ef_63 m a1 (3 : Int32) v0 v1 v2 v3) k) ?_
  show OwnEnds _ _ _ _ _ _ _ (s₁.setTop (mkF m 0 #[.val (.ref a1), .val (.int (3 : Int32)), .val (.int v0), .val (.int v1), .val (.int v2), .val (.int v3)] []))
  refine ogo (fun t k => XS.aloadN X0.here hx rfl (hb hby d63_0) rfl rfl k) ?_
  show OwnEnds _ _ _ _ _ _ _ (s₁.setTop (mkF m 1 #[.val (.ref a1), .val (.int (3 : Int32)), .val (.int v0), .val (.int v1), .val (.int v2), .val (.int v3)] [(.ref a1)]))
  refine ogo (fun t k => XS.ifnullNo X0.here hx rfl (hb hby d63_1) rfl k) ?_
  show OwnEnds _ _ _ _ _ _ _ (s₁.setTop (mkF m 4 #[.val (.ref a1), .val (.int (3 : Int32)), .val (.int v0), .val (.int v1), .val (.int v2), .val (.int v3)] []))
  refine ogo (fun t k => XS.aloadN X0.here hx rfl (hb hby d63_4) rfl rfl k) ?_
  show OwnEnds _ _ _ _ _ _ _ (s₁.setTop (mkF m 5 #[.val (.ref a1), .val (.int (3 : Int32)), .val (.int v0), .val (.int v1), .val (.int v2), .val (.int v3)] [(.ref a1)]))
  obtain ⟨ak1, cl1, Ar1, Aq1, As1, An1, Ah1, Ag1⟩ := id V_1
  refine ogo (fun t k => X0.arraylength hx (by rw [e0]; exact Ar1.1) (State.isArrayOf_alike hZ.alike Ar1.2.1) (g := (mkF m 5 #[.val (.ref a1), .val (.int (3 : Int32)), .val (.int v0), .val (.int v1), .val (.int v2), .val (.int v3)] [(.ref a1)])) rfl rfl (hb hby d63_5) t k) ?_
  rw [len_of As1 An1]
  show OwnEnds _ _ _ _ _ _ _ (s₁.setTop (mkF m 6 #[.val (.ref a1), .val (.int (3 : Int32)), .val (.int v0), .val (.int v1), .val (.int v2), .val (.int v3)] [(.int (3 : Int32))]))
  refine ogo (fun t k => XS.iloadN X0.here hx rfl (hb hby d63_6) rfl k) ?_
  show OwnEnds _ _ _ _ _ _ _ (s₁.setTop (mkF m 7 #[.val (.ref a1), .val (.int (3 : Int32)), .val (.int v0), .val (.int v1), .val (.int v2), .val (.int v3)] [(.int (3 : Int32)), (.int (3 : Int32))]))
  refine ogo (fun t k => XS.icmpYes X0.here hx rfl (pc0 := 7) (pc' := 12) rfl (hb hby d63_7) rfl (teq (by decide : (3 : Int32) = (3 : Int32))).1 (by decide) (by decide) k) ?_
  show OwnEnds _ _ _ _ _ _ _ (s₁.setTop (mkF m 12 #[.val (.ref a1), .val (.int (3 : Int32)), .val (.int v0), .val (.int v1), .val (.int v2), .val (.int v3)] []))
  refine ogo (fun t k => XS.iloadN X0.here hx rfl (hb hby d63_12) rfl k) ?_
  show OwnEnds _ _ _ _ _ _ _ (s₁.setTop (mkF m 13 #[.val (.ref a1), .val (.int (3 : Int32)), .val (.int v0), .val (.int v1), .val (.int v2), .val (.int v3)] [(.int (3 : Int32))]))
  refine ogo (fun t k => XS.ifNo X0.here hx rfl (hb hby d63_13) rfl ((if0 _ _).trans (tlt (by decide : (0 : Int32) < (3 : Int32))).2.2.2) k) ?_
  show OwnEnds _ _ _ _ _ _ _ (s₁.setTop (mkF m 16 #[.val (.ref a1), .val (.int (3 : Int32)), .val (.int v0), .val (.int v1), .val (.int v2), .val (.int v3)] []))
  refine ogo (fun t k => XS.aloadN X0.here hx rfl (hb hby d63_16) rfl rfl k) ?_
  show OwnEnds _ _ _ _ _ _ _ (s₁.setTop (mkF m 17 #[.val (.ref a1), .val (.int (3 : Int32)), .val (.int v0), .val (.int v1), .val (.int v2), .val (.int v3)] [(.ref a1)]))
  refine ogo (fun t k => XS.iconst X0.here hx rfl (hb hby d63_17) k) ?_
  show OwnEnds _ _ _ _ _ _ _ (s₁.setTop (mkF m 18 #[.val (.ref a1), .val (.int (3 : Int32)), .val (.int v0), .val (.int v1), .val (.int v2), .val (.int v3)] [(.int (0 : Int32)), (.ref a1)]))
  obtain ⟨ak2, cl2, Ar2, Aq2, As2, An2, Ah2, Ag2⟩ := id V_1
  refine ogo (fun t k => X0.baloadBytes hx (j := (0 : Int32)) (v := (.int v0)) (by rw [e0]; exact Ar2.1) (State.isArrayOf_alike hZ.alike Ar2.2.1) Ar2.2.2 (inb_of As2 ⟨by decide, by decide⟩) (Ah2.at (inb_of As2 ⟨by decide, by decide⟩) rfl) (g := (mkF m 18 #[.val (.ref a1), .val (.int (3 : Int32)), .val (.int v0), .val (.int v1), .val (.int v2), .val (.int v3)] [(.int (0 : Int32)), (.ref a1)])) rfl rfl (hb hby d63_18) t k) ?_
  show OwnEnds _ _ _ _ _ _ _ (s₁.setTop (mkF m 19 #[.val (.ref a1), .val (.int (3 : Int32)), .val (.int v0), .val (.int v1), .val (.int v2), .val (.int v3)] [(.int v0)]))
  refine ogo (fun t k => XS.iloadN X0.here hx rfl (hb hby d63_19) rfl k) ?_
  show OwnEnds _ _ _ _ _ _ _ (s₁.setTop (mkF m 20 #[.val (.ref a1), .val (.int (3 : Int32)), .val (.int v0), .val (.int v1), .val (.int v2), .val (.int v3)] [(.int v0), (.int v0)]))
  refine ogo (fun t k => XS.icmpYes X0.here hx rfl (pc0 := 20) (pc' := 25) rfl (hb hby d63_20) rfl (teq (rfl : v0 = v0)).1 (by decide) (by decide) k) ?_
  show OwnEnds _ _ _ _ _ _ _ (s₁.setTop (mkF m 25 #[.val (.ref a1), .val (.int (3 : Int32)), .val (.int v0), .val (.int v1), .val (.int v2), .val (.int v3)] []))
  refine ogo (fun t k => XS.iloadN X0.here hx rfl (hb hby d63_25) rfl k) ?_
  show OwnEnds _ _ _ _ _ _ _ (s₁.setTop (mkF m 26 #[.val (.ref a1), .val (.int (3 : Int32)), .val (.int v0), .val (.int v1), .val (.int v2), .val (.int v3)] [(.int (3 : Int32))]))
  refine ogo (fun t k => XS.iconst X0.here hx rfl (hb hby d63_26) k) ?_
  show OwnEnds _ _ _ _ _ _ _ (s₁.setTop (mkF m 27 #[.val (.ref a1), .val (.int (3 : Int32)), .val (.int v0), .val (.int v1), .val (.int v2), .val (.int v3)] [(.int (1 : Int32)), (.int (3 : Int32))]))
  refine ogo (fun t k => XS.icmpNo X0.here hx rfl (hb hby d63_27) rfl (tlt (by decide : (1 : Int32) < (3 : Int32))).2.2.2 k) ?_
  show OwnEnds _ _ _ _ _ _ _ (s₁.setTop (mkF m 30 #[.val (.ref a1), .val (.int (3 : Int32)), .val (.int v0), .val (.int v1), .val (.int v2), .val (.int v3)] []))
  refine ogo (fun t k => XS.aloadN X0.here hx rfl (hb hby d63_30) rfl rfl k) ?_
  show OwnEnds _ _ _ _ _ _ _ (s₁.setTop (mkF m 31 #[.val (.ref a1), .val (.int (3 : Int32)), .val (.int v0), .val (.int v1), .val (.int v2), .val (.int v3)] [(.ref a1)]))
  refine ogo (fun t k => XS.iconst X0.here hx rfl (hb hby d63_31) k) ?_
  show OwnEnds _ _ _ _ _ _ _ (s₁.setTop (mkF m 32 #[.val (.ref a1), .val (.int (3 : Int32)), .val (.int v0), .val (.int v1), .val (.int v2), .val (.int v3)] [(.int (1 : Int32)), (.ref a1)]))
  obtain ⟨ak3, cl3, Ar3, Aq3, As3, An3, Ah3, Ag3⟩ := id V_1
  refine ogo (fun t k => X0.baloadBytes hx (j := (1 : Int32)) (v := (.int v1)) (by rw [e0]; exact Ar3.1) (State.isArrayOf_alike hZ.alike Ar3.2.1) Ar3.2.2 (inb_of As3 ⟨by decide, by decide⟩) (Ah3.at (inb_of As3 ⟨by decide, by decide⟩) rfl) (g := (mkF m 32 #[.val (.ref a1), .val (.int (3 : Int32)), .val (.int v0), .val (.int v1), .val (.int v2), .val (.int v3)] [(.int (1 : Int32)), (.ref a1)])) rfl rfl (hb hby d63_32) t k) ?_
  show OwnEnds _ _ _ _ _ _ _ (s₁.setTop (mkF m 33 #[.val (.ref a1), .val (.int (3 : Int32)), .val (.int v0), .val (.int v1), .val (.int v2), .val (.int v3)] [(.int v1)]))
  refine ogo (fun t k => XS.iloadN X0.here hx rfl (hb hby d63_33) rfl k) ?_
  show OwnEnds _ _ _ _ _ _ _ (s₁.setTop (mkF m 34 #[.val (.ref a1), .val (.int (3 : Int32)), .val (.int v0), .val (.int v1), .val (.int v2), .val (.int v3)] [(.int v1), (.int v1)]))
  refine ogo (fun t k => XS.icmpYes X0.here hx rfl (pc0 := 34) (pc' := 39) rfl (hb hby d63_34) rfl (teq (rfl : v1 = v1)).1 (by decide) (by decide) k) ?_
  show OwnEnds _ _ _ _ _ _ _ (s₁.setTop (mkF m 39 #[.val (.ref a1), .val (.int (3 : Int32)), .val (.int v0), .val (.int v1), .val (.int v2), .val (.int v3)] []))
  refine ogo (fun t k => XS.iloadN X0.here hx rfl (hb hby d63_39) rfl k) ?_
  show OwnEnds _ _ _ _ _ _ _ (s₁.setTop (mkF m 40 #[.val (.ref a1), .val (.int (3 : Int32)), .val (.int v0), .val (.int v1), .val (.int v2), .val (.int v3)] [(.int (3 : Int32))]))
  refine ogo (fun t k => XS.iconst X0.here hx rfl (hb hby d63_40) k) ?_
  show OwnEnds _ _ _ _ _ _ _ (s₁.setTop (mkF m 41 #[.val (.ref a1), .val (.int (3 : Int32)), .val (.int v0), .val (.int v1), .val (.int v2), .val (.int v3)] [(.int (2 : Int32)), (.int (3 : Int32))]))
  refine ogo (fun t k => XS.icmpNo X0.here hx rfl (hb hby d63_41) rfl (tlt (by decide : (2 : Int32) < (3 : Int32))).2.2.2 k) ?_
  show OwnEnds _ _ _ _ _ _ _ (s₁.setTop (mkF m 44 #[.val (.ref a1), .val (.int (3 : Int32)), .val (.int v0), .val (.int v1), .val (.int v2), .val (.int v3)] []))
  refine ogo (fun t k => XS.aloadN X0.here hx rfl (hb hby d63_44) rfl rfl k) ?_
  show OwnEnds _ _ _ _ _ _ _ (s₁.setTop (mkF m 45 #[.val (.ref a1), .val (.int (3 : Int32)), .val (.int v0), .val (.int v1), .val (.int v2), .val (.int v3)] [(.ref a1)]))
  refine ogo (fun t k => XS.iconst X0.here hx rfl (hb hby d63_45) k) ?_
  show OwnEnds _ _ _ _ _ _ _ (s₁.setTop (mkF m 46 #[.val (.ref a1), .val (.int (3 : Int32)), .val (.int v0), .val (.int v1), .val (.int v2), .val (.int v3)] [(.int (2 : Int32)), (.ref a1)]))
  obtain ⟨ak4, cl4, Ar4, Aq4, As4, An4, Ah4, Ag4⟩ := id V_1
  refine ogo (fun t k => X0.baloadBytes hx (j := (2 : Int32)) (v := (.int v2)) (by rw [e0]; exact Ar4.1) (State.isArrayOf_alike hZ.alike Ar4.2.1) Ar4.2.2 (inb_of As4 ⟨by decide, by decide⟩) (Ah4.at (inb_of As4 ⟨by decide, by decide⟩) rfl) (g := (mkF m 46 #[.val (.ref a1), .val (.int (3 : Int32)), .val (.int v0), .val (.int v1), .val (.int v2), .val (.int v3)] [(.int (2 : Int32)), (.ref a1)])) rfl rfl (hb hby d63_46) t k) ?_
  show OwnEnds _ _ _ _ _ _ _ (s₁.setTop (mkF m 47 #[.val (.ref a1), .val (.int (3 : Int32)), .val (.int v0), .val (.int v1), .val (.int v2), .val (.int v3)] [(.int v2)]))
  refine ogo (fun t k => XS.iload X0.here hx rfl (hb hby d63_47) rfl k) ?_
  show OwnEnds _ _ _ _ _ _ _ (s₁.setTop (mkF m 49 #[.val (.ref a1), .val (.int (3 : Int32)), .val (.int v0), .val (.int v1), .val (.int v2), .val (.int v3)] [(.int v2), (.int v2)]))
  refine ogo (fun t k => XS.icmpYes X0.here hx rfl (pc0 := 49) (pc' := 54) rfl (hb hby d63_49) rfl (teq (rfl : v2 = v2)).1 (by decide) (by decide) k) ?_
  show OwnEnds _ _ _ _ _ _ _ (s₁.setTop (mkF m 54 #[.val (.ref a1), .val (.int (3 : Int32)), .val (.int v0), .val (.int v1), .val (.int v2), .val (.int v3)] []))
  refine ogo (fun t k => XS.iloadN X0.here hx rfl (hb hby d63_54) rfl k) ?_
  show OwnEnds _ _ _ _ _ _ _ (s₁.setTop (mkF m 55 #[.val (.ref a1), .val (.int (3 : Int32)), .val (.int v0), .val (.int v1), .val (.int v2), .val (.int v3)] [(.int (3 : Int32))]))
  refine ogo (fun t k => XS.iconst X0.here hx rfl (hb hby d63_55) k) ?_
  show OwnEnds _ _ _ _ _ _ _ (s₁.setTop (mkF m 56 #[.val (.ref a1), .val (.int (3 : Int32)), .val (.int v0), .val (.int v1), .val (.int v2), .val (.int v3)] [(.int (3 : Int32)), (.int (3 : Int32))]))
  refine ogo (fun t k => XS.icmpYes X0.here hx rfl (pc0 := 56) (pc' := 69) rfl (hb hby d63_56) rfl (flt (by decide : ¬ ((3 : Int32) < (3 : Int32)))).2.2.2 (by decide) (by decide) k) ?_
  show OwnEnds _ _ _ _ _ _ _ (s₁.setTop (mkF m 69 #[.val (.ref a1), .val (.int (3 : Int32)), .val (.int v0), .val (.int v1), .val (.int v2), .val (.int v3)] []))
  refine ogo (fun t k => XS.iconst X0.here hx rfl (hb hby d63_69) k) ?_
  show OwnEnds _ _ _ _ _ _ _ (s₁.setTop (mkF m 70 #[.val (.ref a1), .val (.int (3 : Int32)), .val (.int v0), .val (.int v1), .val (.int v2), .val (.int v3)] [(.int (1 : Int32))]))
  refine endZ X0 hx hlk hret rfl (hb hby d63_70) (by decide) (by decide) ?_
  show Q63 Z a1 v0 v1 v2 v3 h0 n0 _ s₁.heap _
  rw [e0]
  exact ⟨by simp [], N0, rfl⟩
theorem d64_0 : decode method_3_code 0 = .ok (.aload_n 0, 1) := by decide +kernel
theorem d64_1 : decode method_3_code 1 = .ok (.ifnull 9, 3) := by decide +kernel
theorem d64_4 : decode method_3_code 4 = .ok (.aload_n 0, 1) := by decide +kernel
theorem d64_5 : decode method_3_code 5 = .ok (.arraylength, 1) := by decide +kernel
theorem d64_6 : decode method_3_code 6 = .ok (.iload_n 1, 1) := by decide +kernel
theorem d64_7 : decode method_3_code 7 = .ok (.if_icmp .eq 5, 3) := by decide +kernel
theorem d64_12 : decode method_3_code 12 = .ok (.iload_n 1, 1) := by decide +kernel
theorem d64_13 : decode method_3_code 13 = .ok (.ifCond .le 12, 3) := by decide +kernel
theorem d64_16 : decode method_3_code 16 = .ok (.aload_n 0, 1) := by decide +kernel
theorem d64_17 : decode method_3_code 17 = .ok (.iconst 0, 1) := by decide +kernel
theorem d64_18 : decode method_3_code 18 = .ok (.baload, 1) := by decide +kernel
theorem d64_19 : decode method_3_code 19 = .ok (.iload_n 2, 1) := by decide +kernel
theorem d64_20 : decode method_3_code 20 = .ok (.if_icmp .eq 5, 3) := by decide +kernel
theorem d64_25 : decode method_3_code 25 = .ok (.iload_n 1, 1) := by decide +kernel
theorem d64_26 : decode method_3_code 26 = .ok (.iconst 1, 1) := by decide +kernel
theorem d64_27 : decode method_3_code 27 = .ok (.if_icmp .le 12, 3) := by decide +kernel
theorem d64_30 : decode method_3_code 30 = .ok (.aload_n 0, 1) := by decide +kernel
theorem d64_31 : decode method_3_code 31 = .ok (.iconst 1, 1) := by decide +kernel
theorem d64_32 : decode method_3_code 32 = .ok (.baload, 1) := by decide +kernel
theorem d64_33 : decode method_3_code 33 = .ok (.iload_n 3, 1) := by decide +kernel
theorem d64_34 : decode method_3_code 34 = .ok (.if_icmp .eq 5, 3) := by decide +kernel
theorem d64_39 : decode method_3_code 39 = .ok (.iload_n 1, 1) := by decide +kernel
theorem d64_40 : decode method_3_code 40 = .ok (.iconst 2, 1) := by decide +kernel
theorem d64_41 : decode method_3_code 41 = .ok (.if_icmp .le 13, 3) := by decide +kernel
theorem d64_44 : decode method_3_code 44 = .ok (.aload_n 0, 1) := by decide +kernel
theorem d64_45 : decode method_3_code 45 = .ok (.iconst 2, 1) := by decide +kernel
theorem d64_46 : decode method_3_code 46 = .ok (.baload, 1) := by decide +kernel
theorem d64_47 : decode method_3_code 47 = .ok (.iload 4, 2) := by decide +kernel
theorem d64_49 : decode method_3_code 49 = .ok (.if_icmp .eq 5, 3) := by decide +kernel
theorem d64_54 : decode method_3_code 54 = .ok (.iload_n 1, 1) := by decide +kernel
theorem d64_55 : decode method_3_code 55 = .ok (.iconst 3, 1) := by decide +kernel
theorem d64_56 : decode method_3_code 56 = .ok (.if_icmp .le 13, 3) := by decide +kernel
theorem d64_59 : decode method_3_code 59 = .ok (.aload_n 0, 1) := by decide +kernel
theorem d64_60 : decode method_3_code 60 = .ok (.iconst 3, 1) := by decide +kernel
theorem d64_61 : decode method_3_code 61 = .ok (.baload, 1) := by decide +kernel
theorem d64_62 : decode method_3_code 62 = .ok (.iload 5, 2) := by decide +kernel
theorem d64_64 : decode method_3_code 64 = .ok (.if_icmp .eq 5, 3) := by decide +kernel
theorem d64_69 : decode method_3_code 69 = .ok (.iconst 1, 1) := by decide +kernel
theorem d64_70 : decode method_3_code 70 = .ok (.ireturn, 1) := by decide +kernel
theorem ef_64 (m : MethodId) (x0 : Addr) (x1 : Int32) (x2 : Int32) (x3 : Int32) (x4 : Int32) (x5 : Int32) : entryFrame m #[(.ref x0), (.int x1), (.int x2), (.int x3), (.int x4), (.int x5)] 6 = mkF m 0 #[.val (.ref x0), .val (.int x1), .val (.int x2), .val (.int x3), .val (.int x4), .val (.int x5)] [] := by first | (simp [entryFrame, mkF, argsToLocals, Value.category]; done) | rfl
def Q64 (Z : State) (a1 : Addr) (v0 v1 v2 v3 : Int32) (h0 : Heap) (n0 : Nat) (v : Option Value) (h : Heap) (L : List Loc) : Prop := v = some (.int 1) ∧ Fr n0 L ∧ h = h0
set_option maxRecDepth 65536 in
set_option maxHeartbeats 40000000 in
theorem rm64 (l : Launch) (Z : State) (a0 : Array Value) (hw : ∀ d ∈ tables_1, d.before a0 Z = true) (ws : List Jvm.Cond) (a1 : Addr) (v0 v1 v2 v3 : Int32) (h0 : Heap) (n0 : Nat) (Z0 : n0 ≤ h0.size) (V_1 : Av Z h0 a1 .byte (4 : Int32) [(.int v0), (.int v1), (.int v2), (.int v3)] (.int (0 : Int32))) :
    MetFree l (⟨"com/example/once_guard/onceguard/ClaimResultInProgressPinLaw", "same", "([BIBBBB)Z"⟩ : MethodName) (head1 (Jvm.Cond.code (⟨"com/example/once_guard/onceguard/ClaimResultInProgressPinLaw", "same", "([BIBBBB)Z"⟩ : MethodName) method_3_code 6 (some .boolean) :: ws) ({ frames := 0, cells := 0, slots := 0, locals := 0 } : Room)) (fun a U => a = #[(.ref a1), (.int (4 : Int32)), (.int v0), (.int v1), (.int v2), (.int v3)] ∧ Z.Warmed39 U.vm ∧ U.heap = h0) (fun _ _ _ _ _ => True) (fun _ U o U' => ∃ v L, o = .returned v ∧ Q64 Z a1 v0 v1 v2 v3 h0 n0 v U'.heap L ∧ FrameEnd U o U' L ({ frames := 0, cells := 0, slots := 0, locals := 0 } : Room).cells ({ frames := 0, cells := 0, slots := 0, locals := 0 } : Room).slots) := by
  refine MetFree.of_bodySF (plainFor_of_name pn_ClaimResultInProgressPinLaw) hisR ?_
  intro p e s m args below meth c s₁ Bd hml0 hP hK
  obtain ⟨rfl, hZ, hh⟩ := hP
  have hx := Bd.exec
  have hby := Bd.bytes
  have hml : c.maxLocals = 6 := hml0
  have hown : s.vm.findClass "com/example/once_guard/onceguard/ClaimResultInProgressPinLaw" = some m.cls := findClass_of_methodNamed Bd.named
  have hnm := (name_of_methodNamed Bd.named Bd.method).1
  have hlk : meth.locks = false := BodyLoose.notSynchronized Bd
  have hret := Bd.returns
  have X0 : Stand p l e ({ frames := 0, cells := 0, slots := 0, locals := 0 } : Room) s m #[(.ref a1), (.int (4 : Int32)), (.int v0), (.int v1), (.int v2), (.int v3)] below meth c s₁ [] 0 0 := Stand.of_body Bd
  have e0 : s₁.heap = h0 := by rw [← hh, Bd.state]; rfl
  have N0 := Fr.nil n0
  refine ogo (U' := s₁.setTop (mkF m 0 #[.val (.ref a1), .val (.int (4 : Int32)), .val (.int v0), .val (.int v1), .val (.int v2), .val (.int v3)] [])) (Q := Q64 Z a1 v0 v1 v2 v3 h0 n0) (K := ({ frames := 0, cells := 0, slots := 0, locals := 0 } : Room).cells) (N := ({ frames := 0, cells := 0, slots := 0, locals := 0 } : Room).slots) (fun t k => castTop (ef_64 m a1 (4 : Int32) v0 v1 v2 v3) k) ?_
  show OwnEnds _ _ _ _ _ _ _ (s₁.setTop (mkF m 0 #[.val (.ref a1), .val (.int (4 : Int32)), .val (.int v0), .val (.int v1), .val (.int v2), .val (.int v3)] []))
  refine ogo (fun t k => XS.aloadN X0.here hx rfl (hb hby d64_0) rfl rfl k) ?_
  show OwnEnds _ _ _ _ _ _ _ (s₁.setTop (mkF m 1 #[.val (.ref a1), .val (.int (4 : Int32)), .val (.int v0), .val (.int v1), .val (.int v2), .val (.int v3)] [(.ref a1)]))
  refine ogo (fun t k => XS.ifnullNo X0.here hx rfl (hb hby d64_1) rfl k) ?_
  show OwnEnds _ _ _ _ _ _ _ (s₁.setTop (mkF m 4 #[.val (.ref a1), .val (.int (4 : Int32)), .val (.int v0), .val (.int v1), .val (.int v2), .val (.int v3)] []))
  refine ogo (fun t k => XS.aloadN X0.here hx rfl (hb hby d64_4) rfl rfl k) ?_
  show OwnEnds _ _ _ _ _ _ _ (s₁.setTop (mkF m 5 #[.val (.ref a1), .val (.int (4 : Int32)), .val (.int v0), .val (.int v1), .val (.int v2), .val (.int v3)] [(.ref a1)]))
  obtain ⟨ak1, cl1, Ar1, Aq1, As1, An1, Ah1, Ag1⟩ := id V_1
  refine ogo (fun t k => X0.arraylength hx (by rw [e0]; exact Ar1.1) (State.isArrayOf_alike hZ.alike Ar1.2.1) (g := (mkF m 5 #[.val (.ref a1), .val (.int (4 : Int32)), .val (.int v0), .val (.int v1), .val (.int v2), .val (.int v3)] [(.ref a1)])) rfl rfl (hb hby d64_5) t k) ?_
  rw [len_of As1 An1]
  show OwnEnds _ _ _ _ _ _ _ (s₁.setTop (mkF m 6 #[.val (.ref a1), .val (.int (4 : Int32)), .val (.int v0), .val (.int v1), .val (.int v2), .val (.int v3)] [(.int (4 : Int32))]))
  refine ogo (fun t k => XS.iloadN X0.here hx rfl (hb hby d64_6) rfl k) ?_
  show OwnEnds _ _ _ _ _ _ _ (s₁.setTop (mkF m 7 #[.val (.ref a1), .val (.int (4 : Int32)), .val (.int v0), .val (.int v1), .val (.int v2), .val (.int v3)] [(.int (4 : Int32)), (.int (4 : Int32))]))
  refine ogo (fun t k => XS.icmpYes X0.here hx rfl (pc0 := 7) (pc' := 12) rfl (hb hby d64_7) rfl (teq (by decide : (4 : Int32) = (4 : Int32))).1 (by decide) (by decide) k) ?_
  show OwnEnds _ _ _ _ _ _ _ (s₁.setTop (mkF m 12 #[.val (.ref a1), .val (.int (4 : Int32)), .val (.int v0), .val (.int v1), .val (.int v2), .val (.int v3)] []))
  refine ogo (fun t k => XS.iloadN X0.here hx rfl (hb hby d64_12) rfl k) ?_
  show OwnEnds _ _ _ _ _ _ _ (s₁.setTop (mkF m 13 #[.val (.ref a1), .val (.int (4 : Int32)), .val (.int v0), .val (.int v1), .val (.int v2), .val (.int v3)] [(.int (4 : Int32))]))
  refine ogo (fun t k => XS.ifNo X0.here hx rfl (hb hby d64_13) rfl ((if0 _ _).trans (tlt (by decide : (0 : Int32) < (4 : Int32))).2.2.2) k) ?_
  show OwnEnds _ _ _ _ _ _ _ (s₁.setTop (mkF m 16 #[.val (.ref a1), .val (.int (4 : Int32)), .val (.int v0), .val (.int v1), .val (.int v2), .val (.int v3)] []))
  refine ogo (fun t k => XS.aloadN X0.here hx rfl (hb hby d64_16) rfl rfl k) ?_
  show OwnEnds _ _ _ _ _ _ _ (s₁.setTop (mkF m 17 #[.val (.ref a1), .val (.int (4 : Int32)), .val (.int v0), .val (.int v1), .val (.int v2), .val (.int v3)] [(.ref a1)]))
  refine ogo (fun t k => XS.iconst X0.here hx rfl (hb hby d64_17) k) ?_
  show OwnEnds _ _ _ _ _ _ _ (s₁.setTop (mkF m 18 #[.val (.ref a1), .val (.int (4 : Int32)), .val (.int v0), .val (.int v1), .val (.int v2), .val (.int v3)] [(.int (0 : Int32)), (.ref a1)]))
  obtain ⟨ak2, cl2, Ar2, Aq2, As2, An2, Ah2, Ag2⟩ := id V_1
  refine ogo (fun t k => X0.baloadBytes hx (j := (0 : Int32)) (v := (.int v0)) (by rw [e0]; exact Ar2.1) (State.isArrayOf_alike hZ.alike Ar2.2.1) Ar2.2.2 (inb_of As2 ⟨by decide, by decide⟩) (Ah2.at (inb_of As2 ⟨by decide, by decide⟩) rfl) (g := (mkF m 18 #[.val (.ref a1), .val (.int (4 : Int32)), .val (.int v0), .val (.int v1), .val (.int v2), .val (.int v3)] [(.int (0 : Int32)), (.ref a1)])) rfl rfl (hb hby d64_18) t k) ?_
  show OwnEnds _ _ _ _ _ _ _ (s₁.setTop (mkF m 19 #[.val (.ref a1), .val (.int (4 : Int32)), .val (.int v0), .val (.int v1), .val (.int v2), .val (.int v3)] [(.int v0)]))
  refine ogo (fun t k => XS.iloadN X0.here hx rfl (hb hby d64_19) rfl k) ?_
  show OwnEnds _ _ _ _ _ _ _ (s₁.setTop (mkF m 20 #[.val (.ref a1), .val (.int (4 : Int32)), .val (.int v0), .val (.int v1), .val (.int v2), .val (.int v3)] [(.int v0), (.int v0)]))
  refine ogo (fun t k => XS.icmpYes X0.here hx rfl (pc0 := 20) (pc' := 25) rfl (hb hby d64_20) rfl (teq (rfl : v0 = v0)).1 (by decide) (by decide) k) ?_
  show OwnEnds _ _ _ _ _ _ _ (s₁.setTop (mkF m 25 #[.val (.ref a1), .val (.int (4 : Int32)), .val (.int v0), .val (.int v1), .val (.int v2), .val (.int v3)] []))
  refine ogo (fun t k => XS.iloadN X0.here hx rfl (hb hby d64_25) rfl k) ?_
  show OwnEnds _ _ _ _ _ _ _ (s₁.setTop (mkF m 26 #[.val (.ref a1), .val (.int (4 : Int32)), .val (.int v0), .val (.int v1), .val (.int v2), .val (.int v3)] [(.int (4 : Int32))]))
  refine ogo (fun t k => XS.iconst X0.here hx rfl (hb hby d64_26) k) ?_
  show OwnEnds _ _ _ _ _ _ _ (s₁.setTop (mkF m 27 #[.val (.ref a1), .val (.int (4 : Int32)), .val (.int v0), .val (.int v1), .val (.int v2), .val (.int v3)] [(.int (1 : Int32)), (.int (4 : Int32))]))
  refine ogo (fun t k => XS.icmpNo X0.here hx rfl (hb hby d64_27) rfl (tlt (by decide : (1 : Int32) < (4 : Int32))).2.2.2 k) ?_
  show OwnEnds _ _ _ _ _ _ _ (s₁.setTop (mkF m 30 #[.val (.ref a1), .val (.int (4 : Int32)), .val (.int v0), .val (.int v1), .val (.int v2), .val (.int v3)] []))
  refine ogo (fun t k => XS.aloadN X0.here hx rfl (hb hby d64_30) rfl rfl k) ?_
  show OwnEnds _ _ _ _ _ _ _ (s₁.setTop (mkF m 31 #[.val (.ref a1), .val (.int (4 : Int32)), .val (.int v0), .val (.int v1), .val (.int v2), .val (.int v3)] [(.ref a1)]))
  refine ogo (fun t k => XS.iconst X0.here hx rfl (hb hby d64_31) k) ?_
  show OwnEnds _ _ _ _ _ _ _ (s₁.setTop (mkF m 32 #[.val (.ref a1), .val (.int (4 : Int32)), .val (.int v0), .val (.int v1), .val (.int v2), .val (.int v3)] [(.int (1 : Int32)), (.ref a1)]))
  obtain ⟨ak3, cl3, Ar3, Aq3, As3, An3, Ah3, Ag3⟩ := id V_1
  refine ogo (fun t k => X0.baloadBytes hx (j := (1 : Int32)) (v := (.int v1)) (by rw [e0]; exact Ar3.1) (State.isArrayOf_alike hZ.alike Ar3.2.1) Ar3.2.2 (inb_of As3 ⟨by decide, by decide⟩) (Ah3.at (inb_of As3 ⟨by decide, by decide⟩) rfl) (g := (mkF m 32 #[.val (.ref a1), .val (.int (4 : Int32)), .val (.int v0), .val (.int v1), .val (.int v2), .val (.int v3)] [(.int (1 : Int32)), (.ref a1)])) rfl rfl (hb hby d64_32) t k) ?_
  show OwnEnds _ _ _ _ _ _ _ (s₁.setTop (mkF m 33 #[.val (.ref a1), .val (.int (4 : Int32)), .val (.int v0), .val (.int v1), .val (.int v2), .val (.int v3)] [(.int v1)]))
  refine ogo (fun t k => XS.iloadN X0.here hx rfl (hb hby d64_33) rfl k) ?_
  show OwnEnds _ _ _ _ _ _ _ (s₁.setTop (mkF m 34 #[.val (.ref a1), .val (.int (4 : Int32)), .val (.int v0), .val (.int v1), .val (.int v2), .val (.int v3)] [(.int v1), (.int v1)]))
  refine ogo (fun t k => XS.icmpYes X0.here hx rfl (pc0 := 34) (pc' := 39) rfl (hb hby d64_34) rfl (teq (rfl : v1 = v1)).1 (by decide) (by decide) k) ?_
  show OwnEnds _ _ _ _ _ _ _ (s₁.setTop (mkF m 39 #[.val (.ref a1), .val (.int (4 : Int32)), .val (.int v0), .val (.int v1), .val (.int v2), .val (.int v3)] []))
  refine ogo (fun t k => XS.iloadN X0.here hx rfl (hb hby d64_39) rfl k) ?_
  show OwnEnds _ _ _ _ _ _ _ (s₁.setTop (mkF m 40 #[.val (.ref a1), .val (.int (4 : Int32)), .val (.int v0), .val (.int v1), .val (.int v2), .val (.int v3)] [(.int (4 : Int32))]))
  refine ogo (fun t k => XS.iconst X0.here hx rfl (hb hby d64_40) k) ?_
  show OwnEnds _ _ _ _ _ _ _ (s₁.setTop (mkF m 41 #[.val (.ref a1), .val (.int (4 : Int32)), .val (.int v0), .val (.int v1), .val (.int v2), .val (.int v3)] [(.int (2 : Int32)), (.int (4 : Int32))]))
  refine ogo (fun t k => XS.icmpNo X0.here hx rfl (hb hby d64_41) rfl (tlt (by decide : (2 : Int32) < (4 : Int32))).2.2.2 k) ?_
  show OwnEnds _ _ _ _ _ _ _ (s₁.setTop (mkF m 44 #[.val (.ref a1), .val (.int (4 : Int32)), .val (.int v0), .val (.int v1), .val (.int v2), .val (.int v3)] []))
  refine ogo (fun t k => XS.aloadN X0.here hx rfl (hb hby d64_44) rfl rfl k) ?_
  show OwnEnds _ _ _ _ _ _ _ (s₁.setTop (mkF m 45 #[.val (.ref a1), .val (.int (4 : Int32)), .val (.int v0), .val (.int v1), .val (.int v2), .val (.int v3)] [(.ref a1)]))
  refine ogo (fun t k => XS.iconst X0.here hx rfl (hb hby d64_45) k) ?_
  show OwnEnds _ _ _ _ _ _ _ (s₁.setTop (mkF m 46 #[.val (.ref a1), .val (.int (4 : Int32)), .val (.int v0), .val (.int v1), .val (.int v2), .val (.int v3)] [(.int (2 : Int32)), (.ref a1)]))
  obtain ⟨ak4, cl4, Ar4, Aq4, As4, An4, Ah4, Ag4⟩ := id V_1
  refine ogo (fun t k => X0.baloadBytes hx (j := (2 : Int32)) (v := (.int v2)) (by rw [e0]; exact Ar4.1) (State.isArrayOf_alike hZ.alike Ar4.2.1) Ar4.2.2 (inb_of As4 ⟨by decide, by decide⟩) (Ah4.at (inb_of As4 ⟨by decide, by decide⟩) rfl) (g := (mkF m 46 #[.val (.ref a1), .val (.int (4 : Int32)), .val (.int v0), .val (.int v1), .val (.int v2), .val (.int v3)] [(.int (2 : Int32)), (.ref a1)])) rfl rfl (hb hby d64_46) t k) ?_
  show OwnEnds _ _ _ _ _ _ _ (s₁.setTop (mkF m 47 #[.val (.ref a1), .val (.int (4 : Int32)), .val (.int v0), .val (.int v1), .val (.int v2), .val (.int v3)] [(.int v2)]))
  refine ogo (fun t k => XS.iload X0.here hx rfl (hb hby d64_47) rfl k) ?_
  show OwnEnds _ _ _ _ _ _ _ (s₁.setTop (mkF m 49 #[.val (.ref a1), .val (.int (4 : Int32)), .val (.int v0), .val (.int v1), .val (.int v2), .val (.int v3)] [(.int v2), (.int v2)]))
  refine ogo (fun t k => XS.icmpYes X0.here hx rfl (pc0 := 49) (pc' := 54) rfl (hb hby d64_49) rfl (teq (rfl : v2 = v2)).1 (by decide) (by decide) k) ?_
  show OwnEnds _ _ _ _ _ _ _ (s₁.setTop (mkF m 54 #[.val (.ref a1), .val (.int (4 : Int32)), .val (.int v0), .val (.int v1), .val (.int v2), .val (.int v3)] []))
  refine ogo (fun t k => XS.iloadN X0.here hx rfl (hb hby d64_54) rfl k) ?_
  show OwnEnds _ _ _ _ _ _ _ (s₁.setTop (mkF m 55 #[.val (.ref a1), .val (.int (4 : Int32)), .val (.int v0), .val (.int v1), .val (.int v2), .val (.int v3)] [(.int (4 : Int32))]))
  refine ogo (fun t k => XS.iconst X0.here hx rfl (hb hby d64_55) k) ?_
  show OwnEnds _ _ _ _ _ _ _ (s₁.setTop (mkF m 56 #[.val (.ref a1), .val (.int (4 : Int32)), .val (.int v0), .val (.int v1), .val (.int v2), .val (.int v3)] [(.int (3 : Int32)), (.int (4 : Int32))]))
  refine ogo (fun t k => XS.icmpNo X0.here hx rfl (hb hby d64_56) rfl (tlt (by decide : (3 : Int32) < (4 : Int32))).2.2.2 k) ?_
  show OwnEnds _ _ _ _ _ _ _ (s₁.setTop (mkF m 59 #[.val (.ref a1), .val (.int (4 : Int32)), .val (.int v0), .val (.int v1), .val (.int v2), .val (.int v3)] []))
  refine ogo (fun t k => XS.aloadN X0.here hx rfl (hb hby d64_59) rfl rfl k) ?_
  show OwnEnds _ _ _ _ _ _ _ (s₁.setTop (mkF m 60 #[.val (.ref a1), .val (.int (4 : Int32)), .val (.int v0), .val (.int v1), .val (.int v2), .val (.int v3)] [(.ref a1)]))
  refine ogo (fun t k => XS.iconst X0.here hx rfl (hb hby d64_60) k) ?_
  show OwnEnds _ _ _ _ _ _ _ (s₁.setTop (mkF m 61 #[.val (.ref a1), .val (.int (4 : Int32)), .val (.int v0), .val (.int v1), .val (.int v2), .val (.int v3)] [(.int (3 : Int32)), (.ref a1)]))
  obtain ⟨ak5, cl5, Ar5, Aq5, As5, An5, Ah5, Ag5⟩ := id V_1
  refine ogo (fun t k => X0.baloadBytes hx (j := (3 : Int32)) (v := (.int v3)) (by rw [e0]; exact Ar5.1) (State.isArrayOf_alike hZ.alike Ar5.2.1) Ar5.2.2 (inb_of As5 ⟨by decide, by decide⟩) (Ah5.at (inb_of As5 ⟨by decide, by decide⟩) rfl) (g := (mkF m 61 #[.val (.ref a1), .val (.int (4 : Int32)), .val (.int v0), .val (.int v1), .val (.int v2), .val (.int v3)] [(.int (3 : Int32)), (.ref a1)])) rfl rfl (hb hby d64_61) t k) ?_
  show OwnEnds _ _ _ _ _ _ _ (s₁.setTop (mkF m 62 #[.val (.ref a1), .val (.int (4 : Int32)), .val (.int v0), .val (.int v1), .val (.int v2), .val (.int v3)] [(.int v3)]))
  refine ogo (fun t k => XS.iload X0.here hx rfl (hb hby d64_62) rfl k) ?_
  show OwnEnds _ _ _ _ _ _ _ (s₁.setTop (mkF m 64 #[.val (.ref a1), .val (.int (4 : Int32)), .val (.int v0), .val (.int v1), .val (.int v2), .val (.int v3)] [(.int v3), (.int v3)]))
  refine ogo (fun t k => XS.icmpYes X0.here hx rfl (pc0 := 64) (pc' := 69) rfl (hb hby d64_64) rfl (teq (rfl : v3 = v3)).1 (by decide) (by decide) k) ?_
  show OwnEnds _ _ _ _ _ _ _ (s₁.setTop (mkF m 69 #[.val (.ref a1), .val (.int (4 : Int32)), .val (.int v0), .val (.int v1), .val (.int v2), .val (.int v3)] []))
  refine ogo (fun t k => XS.iconst X0.here hx rfl (hb hby d64_69) k) ?_
  show OwnEnds _ _ _ _ _ _ _ (s₁.setTop (mkF m 70 #[.val (.ref a1), .val (.int (4 : Int32)), .val (.int v0), .val (.int v1), .val (.int v2), .val (.int v3)] [(.int (1 : Int32))]))
  refine endZ X0 hx hlk hret rfl (hb hby d64_70) (by decide) (by decide) ?_
  show Q64 Z a1 v0 v1 v2 v3 h0 n0 _ s₁.heap _
  rw [e0]
  exact ⟨by simp [], N0, rfl⟩
theorem pd_f29d2ef6 : parseMethodDescriptor "([B)Lcom/example/once_guard/onceguard/ClaimResult;" = some ⟨[(.array .byte)], some (.object "com/example/once_guard/onceguard/ClaimResult")⟩ := by decide +kernel
theorem pd___Lcom_example_once_guard_onceguard_ClaimResult_State_ : parseMethodDescriptor "()Lcom/example/once_guard/onceguard/ClaimResult$State;" = some ⟨[], some (.object "com/example/once_guard/onceguard/ClaimResult$State")⟩ := by decide +kernel
theorem pd____B : parseMethodDescriptor "()[B" = some ⟨[], some (.array .byte)⟩ := by decide +kernel
theorem pd___BIBBBB_Z : parseMethodDescriptor "([BIBBBB)Z" = some ⟨[(.array .byte), .int, .byte, .byte, .byte, .byte], some .boolean⟩ := by decide +kernel
theorem ef_0 (m : MethodId) (x0 : Int32) (x1 : Int32) : entryFrame m #[(.int x0), (.int x1)] maxLocals = mkF m 0 #[.val (.int x0), .val (.int x1), .unset, .unset, .unset, .unset, .unset, .unset, .unset, .unset, .unset] [] := by first | (simp [entryFrame, mkF, argsToLocals, Value.category, maxLocals]; done) | rfl
def Q0 (Z : State) (p0 p1 : Int32) (w_IN_PROGRESS w_CLAIMED : Addr) (h0 : Heap) (n0 : Nat) (v : Option Value) (h : Heap) (L : List Loc) : Prop := v = some (.int 1) ∧ Fr n0 L
set_option maxRecDepth 65536 in
set_option maxHeartbeats 40000000 in
theorem tn0_k0 {p : Program} {l : Launch} {e : Env} {s : State} {m : MethodId} {args : Array Value} {below : List Frame} {meth : Method} {c : Code} {locs : List Loc} (Z : State) (a0 : Array Value) (hw : ∀ d ∈ tables_1, d.before a0 Z = true) (p0 p1 : Int32) (w_IN_PROGRESS w_CLAIMED : Addr) (h0 : Heap) (n0 : Nat) (OLD : Old Z n0 h0) (S_IN_PROGRESS : Sta Z Z.heap "com/example/once_guard/onceguard/ClaimResult$State" "IN_PROGRESS" "Lcom/example/once_guard/onceguard/ClaimResult$State;" (.ref w_IN_PROGRESS)) (E_IN_PROGRESS : Exa Z Z.heap w_IN_PROGRESS "com/example/once_guard/onceguard/ClaimResult$State") (F_ordinal_IN_PROGRESS : Fld Z Z.heap w_IN_PROGRESS "java/lang/Enum" "ordinal" "I" (.int (1 : Int32))) (S_CLAIMED : Sta Z Z.heap "com/example/once_guard/onceguard/ClaimResult$State" "CLAIMED" "Lcom/example/once_guard/onceguard/ClaimResult$State;" (.ref w_CLAIMED)) (E_CLAIMED : Exa Z Z.heap w_CLAIMED "com/example/once_guard/onceguard/ClaimResult$State") (F_ordinal_CLAIMED : Fld Z Z.heap w_CLAIMED "java/lang/Enum" "ordinal" "I" (.int (0 : Int32))) (s₁ : State) (hx : p.tables.exec = Jvm.exec) (hZ : Z.Warmed39 (s.setVm s.vm).vm) (hby : c.code = code) (hml : c.maxLocals = 11) (hown : (s.setVm s.vm).vm.findClass "com/example/once_guard/onceguard/ClaimResultInProgressPinLaw" = some m.cls) (hnm : meth.name = "law") (hlk : meth.locks = false) (hret : meth.sig.returnType = some .boolean) (X0 : Stand p l e room_1 (s.setVm s.vm) m args below meth c s₁ locs 0 0) (e0 : s₁.heap = h0) (N0 : Fr n0 locs) (cKC1 : Keep h0 h0 []) (Z0 : n0 ≤ h0.size) (hS0 : s.Since s.vm 0) :
    OwnEndsW p.tables e below s 24 1152 (Q0 Z p0 p1 w_IN_PROGRESS w_CLAIMED h0 n0) (s₁.setTop (mkF m 6 #[.val (.int p0), .val (.int p1), .unset, .unset, .unset, .unset, .unset, .unset, .unset, .unset, .unset] [(.int (0 : Int32))])) := by
  show OwnEndsW _ _ _ _ _ _ _ (s₁.setTop (mkF m 6 #[.val (.int p0), .val (.int p1), .unset, .unset, .unset, .unset, .unset, .unset, .unset, .unset, .unset] [(.int (0 : Int32))]))
  refine ogoW (fun t k => XS.istoreN X0.here hx rfl (hb hby at_6) rfl (l' := #[.val (.int p0), .val (.int p1), .val (.int (0 : Int32)), .unset, .unset, .unset, .unset, .unset, .unset, .unset, .unset]) rfl k) ?_
  show OwnEndsW _ _ _ _ _ _ _ (s₁.setTop (mkF m 7 #[.val (.int p0), .val (.int p1), .val (.int (0 : Int32)), .unset, .unset, .unset, .unset, .unset, .unset, .unset, .unset] []))
  refine ogoW (fun t k => XS.iloadN X0.here hx rfl (hb hby at_7) rfl k) ?_
  show OwnEndsW _ _ _ _ _ _ _ (s₁.setTop (mkF m 8 #[.val (.int p0), .val (.int p1), .val (.int (0 : Int32)), .unset, .unset, .unset, .unset, .unset, .unset, .unset, .unset] [(.int p1)]))
  refine ogoW (fun t k => XS.i2b X0.here hx rfl (hb hby at_8) rfl k) ?_
  show OwnEndsW _ _ _ _ _ _ _ (s₁.setTop (mkF m 9 #[.val (.int p0), .val (.int p1), .val (.int (0 : Int32)), .unset, .unset, .unset, .unset, .unset, .unset, .unset, .unset] [(.int (p1.toInt8.toInt32))]))
  refine ogoW (fun t k => XS.istoreN X0.here hx rfl (hb hby at_9) rfl (l' := #[.val (.int p0), .val (.int p1), .val (.int (0 : Int32)), .val (.int (p1.toInt8.toInt32)), .unset, .unset, .unset, .unset, .unset, .unset, .unset]) rfl k) ?_
  show OwnEndsW _ _ _ _ _ _ _ (s₁.setTop (mkF m 10 #[.val (.int p0), .val (.int p1), .val (.int (0 : Int32)), .val (.int (p1.toInt8.toInt32)), .unset, .unset, .unset, .unset, .unset, .unset, .unset] []))
  refine ogoW (fun t k => XS.iloadN X0.here hx rfl (hb hby at_10) rfl k) ?_
  show OwnEndsW _ _ _ _ _ _ _ (s₁.setTop (mkF m 11 #[.val (.int p0), .val (.int p1), .val (.int (0 : Int32)), .val (.int (p1.toInt8.toInt32)), .unset, .unset, .unset, .unset, .unset, .unset, .unset] [(.int p1)]))
  refine ogoW (fun t k => XS.bipush X0.here hx rfl (hb hby at_11) k) ?_
  show OwnEndsW _ _ _ _ _ _ _ (s₁.setTop (mkF m 13 #[.val (.int p0), .val (.int p1), .val (.int (0 : Int32)), .val (.int (p1.toInt8.toInt32)), .unset, .unset, .unset, .unset, .unset, .unset, .unset] [(.int (8 : Int32)), (.int p1)]))
  refine ogoW (fun t k => XS.iushr X0.here hx rfl (hb hby at_13) rfl k) ?_
  show OwnEndsW _ _ _ _ _ _ _ (s₁.setTop (mkF m 14 #[.val (.int p0), .val (.int p1), .val (.int (0 : Int32)), .val (.int (p1.toInt8.toInt32)), .unset, .unset, .unset, .unset, .unset, .unset, .unset] [(.int ((p1.toUInt32 >>> ((8 : Int32) &&& 31).toUInt32).toInt32))]))
  refine ogoW (fun t k => XS.i2b X0.here hx rfl (hb hby at_14) rfl k) ?_
  show OwnEndsW _ _ _ _ _ _ _ (s₁.setTop (mkF m 15 #[.val (.int p0), .val (.int p1), .val (.int (0 : Int32)), .val (.int (p1.toInt8.toInt32)), .unset, .unset, .unset, .unset, .unset, .unset, .unset] [(.int (((p1.toUInt32 >>> ((8 : Int32) &&& 31).toUInt32).toInt32).toInt8.toInt32))]))
  refine ogoW (fun t k => XS.istore X0.here hx rfl (hb hby at_15) rfl (l' := #[.val (.int p0), .val (.int p1), .val (.int (0 : Int32)), .val (.int (p1.toInt8.toInt32)), .val (.int (((p1.toUInt32 >>> ((8 : Int32) &&& 31).toUInt32).toInt32).toInt8.toInt32)), .unset, .unset, .unset, .unset, .unset, .unset]) rfl k) ?_
  show OwnEndsW _ _ _ _ _ _ _ (s₁.setTop (mkF m 17 #[.val (.int p0), .val (.int p1), .val (.int (0 : Int32)), .val (.int (p1.toInt8.toInt32)), .val (.int (((p1.toUInt32 >>> ((8 : Int32) &&& 31).toUInt32).toInt32).toInt8.toInt32)), .unset, .unset, .unset, .unset, .unset, .unset] []))
  refine ogoW (fun t k => XS.iloadN X0.here hx rfl (hb hby at_17) rfl k) ?_
  show OwnEndsW _ _ _ _ _ _ _ (s₁.setTop (mkF m 18 #[.val (.int p0), .val (.int p1), .val (.int (0 : Int32)), .val (.int (p1.toInt8.toInt32)), .val (.int (((p1.toUInt32 >>> ((8 : Int32) &&& 31).toUInt32).toInt32).toInt8.toInt32)), .unset, .unset, .unset, .unset, .unset, .unset] [(.int p1)]))
  refine ogoW (fun t k => XS.bipush X0.here hx rfl (hb hby at_18) k) ?_
  show OwnEndsW _ _ _ _ _ _ _ (s₁.setTop (mkF m 20 #[.val (.int p0), .val (.int p1), .val (.int (0 : Int32)), .val (.int (p1.toInt8.toInt32)), .val (.int (((p1.toUInt32 >>> ((8 : Int32) &&& 31).toUInt32).toInt32).toInt8.toInt32)), .unset, .unset, .unset, .unset, .unset, .unset] [(.int (16 : Int32)), (.int p1)]))
  refine ogoW (fun t k => XS.iushr X0.here hx rfl (hb hby at_20) rfl k) ?_
  show OwnEndsW _ _ _ _ _ _ _ (s₁.setTop (mkF m 21 #[.val (.int p0), .val (.int p1), .val (.int (0 : Int32)), .val (.int (p1.toInt8.toInt32)), .val (.int (((p1.toUInt32 >>> ((8 : Int32) &&& 31).toUInt32).toInt32).toInt8.toInt32)), .unset, .unset, .unset, .unset, .unset, .unset] [(.int ((p1.toUInt32 >>> ((16 : Int32) &&& 31).toUInt32).toInt32))]))
  refine ogoW (fun t k => XS.i2b X0.here hx rfl (hb hby at_21) rfl k) ?_
  show OwnEndsW _ _ _ _ _ _ _ (s₁.setTop (mkF m 22 #[.val (.int p0), .val (.int p1), .val (.int (0 : Int32)), .val (.int (p1.toInt8.toInt32)), .val (.int (((p1.toUInt32 >>> ((8 : Int32) &&& 31).toUInt32).toInt32).toInt8.toInt32)), .unset, .unset, .unset, .unset, .unset, .unset] [(.int (((p1.toUInt32 >>> ((16 : Int32) &&& 31).toUInt32).toInt32).toInt8.toInt32))]))
  refine ogoW (fun t k => XS.istore X0.here hx rfl (hb hby at_22) rfl (l' := #[.val (.int p0), .val (.int p1), .val (.int (0 : Int32)), .val (.int (p1.toInt8.toInt32)), .val (.int (((p1.toUInt32 >>> ((8 : Int32) &&& 31).toUInt32).toInt32).toInt8.toInt32)), .val (.int (((p1.toUInt32 >>> ((16 : Int32) &&& 31).toUInt32).toInt32).toInt8.toInt32)), .unset, .unset, .unset, .unset, .unset]) rfl k) ?_
  show OwnEndsW _ _ _ _ _ _ _ (s₁.setTop (mkF m 24 #[.val (.int p0), .val (.int p1), .val (.int (0 : Int32)), .val (.int (p1.toInt8.toInt32)), .val (.int (((p1.toUInt32 >>> ((8 : Int32) &&& 31).toUInt32).toInt32).toInt8.toInt32)), .val (.int (((p1.toUInt32 >>> ((16 : Int32) &&& 31).toUInt32).toInt32).toInt8.toInt32)), .unset, .unset, .unset, .unset, .unset] []))
  refine ogoW (fun t k => XS.iloadN X0.here hx rfl (hb hby at_24) rfl k) ?_
  show OwnEndsW _ _ _ _ _ _ _ (s₁.setTop (mkF m 25 #[.val (.int p0), .val (.int p1), .val (.int (0 : Int32)), .val (.int (p1.toInt8.toInt32)), .val (.int (((p1.toUInt32 >>> ((8 : Int32) &&& 31).toUInt32).toInt32).toInt8.toInt32)), .val (.int (((p1.toUInt32 >>> ((16 : Int32) &&& 31).toUInt32).toInt32).toInt8.toInt32)), .unset, .unset, .unset, .unset, .unset] [(.int p1)]))
  refine ogoW (fun t k => XS.bipush X0.here hx rfl (hb hby at_25) k) ?_
  show OwnEndsW _ _ _ _ _ _ _ (s₁.setTop (mkF m 27 #[.val (.int p0), .val (.int p1), .val (.int (0 : Int32)), .val (.int (p1.toInt8.toInt32)), .val (.int (((p1.toUInt32 >>> ((8 : Int32) &&& 31).toUInt32).toInt32).toInt8.toInt32)), .val (.int (((p1.toUInt32 >>> ((16 : Int32) &&& 31).toUInt32).toInt32).toInt8.toInt32)), .unset, .unset, .unset, .unset, .unset] [(.int (24 : Int32)), (.int p1)]))
  refine ogoW (fun t k => XS.iushr X0.here hx rfl (hb hby at_27) rfl k) ?_
  show OwnEndsW _ _ _ _ _ _ _ (s₁.setTop (mkF m 28 #[.val (.int p0), .val (.int p1), .val (.int (0 : Int32)), .val (.int (p1.toInt8.toInt32)), .val (.int (((p1.toUInt32 >>> ((8 : Int32) &&& 31).toUInt32).toInt32).toInt8.toInt32)), .val (.int (((p1.toUInt32 >>> ((16 : Int32) &&& 31).toUInt32).toInt32).toInt8.toInt32)), .unset, .unset, .unset, .unset, .unset] [(.int ((p1.toUInt32 >>> ((24 : Int32) &&& 31).toUInt32).toInt32))]))
  refine ogoW (fun t k => XS.i2b X0.here hx rfl (hb hby at_28) rfl k) ?_
  show OwnEndsW _ _ _ _ _ _ _ (s₁.setTop (mkF m 29 #[.val (.int p0), .val (.int p1), .val (.int (0 : Int32)), .val (.int (p1.toInt8.toInt32)), .val (.int (((p1.toUInt32 >>> ((8 : Int32) &&& 31).toUInt32).toInt32).toInt8.toInt32)), .val (.int (((p1.toUInt32 >>> ((16 : Int32) &&& 31).toUInt32).toInt32).toInt8.toInt32)), .unset, .unset, .unset, .unset, .unset] [(.int (((p1.toUInt32 >>> ((24 : Int32) &&& 31).toUInt32).toInt32).toInt8.toInt32))]))
  refine ogoW (fun t k => XS.istore X0.here hx rfl (hb hby at_29) rfl (l' := #[.val (.int p0), .val (.int p1), .val (.int (0 : Int32)), .val (.int (p1.toInt8.toInt32)), .val (.int (((p1.toUInt32 >>> ((8 : Int32) &&& 31).toUInt32).toInt32).toInt8.toInt32)), .val (.int (((p1.toUInt32 >>> ((16 : Int32) &&& 31).toUInt32).toInt32).toInt8.toInt32)), .val (.int (((p1.toUInt32 >>> ((24 : Int32) &&& 31).toUInt32).toInt32).toInt8.toInt32)), .unset, .unset, .unset, .unset]) rfl k) ?_
  show OwnEndsW _ _ _ _ _ _ _ (s₁.setTop (mkF m 31 #[.val (.int p0), .val (.int p1), .val (.int (0 : Int32)), .val (.int (p1.toInt8.toInt32)), .val (.int (((p1.toUInt32 >>> ((8 : Int32) &&& 31).toUInt32).toInt32).toInt8.toInt32)), .val (.int (((p1.toUInt32 >>> ((16 : Int32) &&& 31).toUInt32).toInt32).toInt8.toInt32)), .val (.int (((p1.toUInt32 >>> ((24 : Int32) &&& 31).toUInt32).toInt32).toInt8.toInt32)), .unset, .unset, .unset, .unset] []))
  refine ogoW (fun t k => XS.iloadN X0.here hx rfl (hb hby at_31) rfl k) ?_
  show OwnEndsW _ _ _ _ _ _ _ (s₁.setTop (mkF m 32 #[.val (.int p0), .val (.int p1), .val (.int (0 : Int32)), .val (.int (p1.toInt8.toInt32)), .val (.int (((p1.toUInt32 >>> ((8 : Int32) &&& 31).toUInt32).toInt32).toInt8.toInt32)), .val (.int (((p1.toUInt32 >>> ((16 : Int32) &&& 31).toUInt32).toInt32).toInt8.toInt32)), .val (.int (((p1.toUInt32 >>> ((24 : Int32) &&& 31).toUInt32).toInt32).toInt8.toInt32)), .unset, .unset, .unset, .unset] [(.int (0 : Int32))]))
  obtain ⟨T2, h2, k2, X2, e2, E2, A2, B2, st2⟩ := newPE X0 hx hZ (hw _ (List.mem_of_getElem? (i := 1) rfl)) e0 (g := (mkF m 32 #[.val (.int p0), .val (.int p1), .val (.int (0 : Int32)), .val (.int (p1.toInt8.toInt32)), .val (.int (((p1.toUInt32 >>> ((8 : Int32) &&& 31).toUInt32).toInt32).toInt8.toInt32)), .val (.int (((p1.toUInt32 >>> ((16 : Int32) &&& 31).toUInt32).toInt32).toInt8.toInt32)), .val (.int (((p1.toUInt32 >>> ((24 : Int32) &&& 31).toUInt32).toInt32).toInt8.toInt32)), .unset, .unset, .unset, .unset] [(.int (0 : Int32))])) rfl (hb hby at_32) rfl (by decide) (cap := 0) (by decide) (by decide) (by decide) (by decide) (ad := "[B") (by decide)
  obtain ⟨b2, g2⟩ : ∃ z, z = h0.size := ⟨_, rfl⟩
  rw [← g2] at A2 B2 st2
  have q_b2 : n0 ≤ b2 := Nat.le_trans Z0 (Nat.le_of_eq g2.symm)
  have sz_b2 : h0.size ≤ b2 := Nat.le_trans cKC1.1 (Nat.le_of_eq g2.symm)
  have OLD3 := OLD.ext E2
  have K3 := cKC1.ext E2
  have Z3 := Nat.le_trans Z0 E2.1
  have V2 : Arv Z h2 b2 k2 .byte (0 : Int32) [] (.int (0 : Int32)) := (Arv.new A2 (by decide)).pad (pad_rep [] (.int (0 : Int32)) 0)
  refine ogoW st2 ?_
  show OwnEndsW _ _ _ _ _ _ _ (T2.setTop (mkF m 34 #[.val (.int p0), .val (.int p1), .val (.int (0 : Int32)), .val (.int (p1.toInt8.toInt32)), .val (.int (((p1.toUInt32 >>> ((8 : Int32) &&& 31).toUInt32).toInt32).toInt8.toInt32)), .val (.int (((p1.toUInt32 >>> ((16 : Int32) &&& 31).toUInt32).toInt32).toInt8.toInt32)), .val (.int (((p1.toUInt32 >>> ((24 : Int32) &&& 31).toUInt32).toInt32).toInt8.toInt32)), .unset, .unset, .unset, .unset] [(.ref b2)]))
  refine ogoW (fun t k => XS.astore X2.here hx rfl (hb hby at_34) rfl rfl (l' := #[.val (.int p0), .val (.int p1), .val (.int (0 : Int32)), .val (.int (p1.toInt8.toInt32)), .val (.int (((p1.toUInt32 >>> ((8 : Int32) &&& 31).toUInt32).toInt32).toInt8.toInt32)), .val (.int (((p1.toUInt32 >>> ((16 : Int32) &&& 31).toUInt32).toInt32).toInt8.toInt32)), .val (.int (((p1.toUInt32 >>> ((24 : Int32) &&& 31).toUInt32).toInt32).toInt8.toInt32)), .val (.ref b2), .unset, .unset, .unset]) rfl k) ?_
  show OwnEndsW _ _ _ _ _ _ _ (T2.setTop (mkF m 36 #[.val (.int p0), .val (.int p1), .val (.int (0 : Int32)), .val (.int (p1.toInt8.toInt32)), .val (.int (((p1.toUInt32 >>> ((8 : Int32) &&& 31).toUInt32).toInt32).toInt8.toInt32)), .val (.int (((p1.toUInt32 >>> ((16 : Int32) &&& 31).toUInt32).toInt32).toInt8.toInt32)), .val (.int (((p1.toUInt32 >>> ((24 : Int32) &&& 31).toUInt32).toInt32).toInt8.toInt32)), .val (.ref b2), .unset, .unset, .unset] []))
  refine ogoW (fun t k => XS.iloadN X2.here hx rfl (hb hby at_36) rfl k) ?_
  show OwnEndsW _ _ _ _ _ _ _ (T2.setTop (mkF m 37 #[.val (.int p0), .val (.int p1), .val (.int (0 : Int32)), .val (.int (p1.toInt8.toInt32)), .val (.int (((p1.toUInt32 >>> ((8 : Int32) &&& 31).toUInt32).toInt32).toInt8.toInt32)), .val (.int (((p1.toUInt32 >>> ((16 : Int32) &&& 31).toUInt32).toInt32).toInt8.toInt32)), .val (.int (((p1.toUInt32 >>> ((24 : Int32) &&& 31).toUInt32).toInt32).toInt8.toInt32)), .val (.ref b2), .unset, .unset, .unset] [(.int (0 : Int32))]))
  refine ogoW (fun t k => XS.ifYes X2.here hx rfl (pc0 := 37) (pc' := 45) rfl (hb hby at_37) rfl ((if0 _ _).trans (flt (by decide : ¬ ((0 : Int32) < (0 : Int32)))).2.2.2) (by decide) (by decide) k) ?_
  show OwnEndsW _ _ _ _ _ _ _ (T2.setTop (mkF m 45 #[.val (.int p0), .val (.int p1), .val (.int (0 : Int32)), .val (.int (p1.toInt8.toInt32)), .val (.int (((p1.toUInt32 >>> ((8 : Int32) &&& 31).toUInt32).toInt32).toInt8.toInt32)), .val (.int (((p1.toUInt32 >>> ((16 : Int32) &&& 31).toUInt32).toInt32).toInt8.toInt32)), .val (.int (((p1.toUInt32 >>> ((24 : Int32) &&& 31).toUInt32).toInt32).toInt8.toInt32)), .val (.ref b2), .unset, .unset, .unset] []))
  refine ogoW (fun t k => XS.iloadN X2.here hx rfl (hb hby at_45) rfl k) ?_
  show OwnEndsW _ _ _ _ _ _ _ (T2.setTop (mkF m 46 #[.val (.int p0), .val (.int p1), .val (.int (0 : Int32)), .val (.int (p1.toInt8.toInt32)), .val (.int (((p1.toUInt32 >>> ((8 : Int32) &&& 31).toUInt32).toInt32).toInt8.toInt32)), .val (.int (((p1.toUInt32 >>> ((16 : Int32) &&& 31).toUInt32).toInt32).toInt8.toInt32)), .val (.int (((p1.toUInt32 >>> ((24 : Int32) &&& 31).toUInt32).toInt32).toInt8.toInt32)), .val (.ref b2), .unset, .unset, .unset] [(.int (0 : Int32))]))
  refine ogoW (fun t k => XS.iconst X2.here hx rfl (hb hby at_46) k) ?_
  show OwnEndsW _ _ _ _ _ _ _ (T2.setTop (mkF m 47 #[.val (.int p0), .val (.int p1), .val (.int (0 : Int32)), .val (.int (p1.toInt8.toInt32)), .val (.int (((p1.toUInt32 >>> ((8 : Int32) &&& 31).toUInt32).toInt32).toInt8.toInt32)), .val (.int (((p1.toUInt32 >>> ((16 : Int32) &&& 31).toUInt32).toInt32).toInt8.toInt32)), .val (.int (((p1.toUInt32 >>> ((24 : Int32) &&& 31).toUInt32).toInt32).toInt8.toInt32)), .val (.ref b2), .unset, .unset, .unset] [(.int (1 : Int32)), (.int (0 : Int32))]))
  refine ogoW (fun t k => XS.icmpYes X2.here hx rfl (pc0 := 47) (pc' := 56) rfl (hb hby at_47) rfl (flt (by decide : ¬ ((1 : Int32) < (0 : Int32)))).2.2.2 (by decide) (by decide) k) ?_
  show OwnEndsW _ _ _ _ _ _ _ (T2.setTop (mkF m 56 #[.val (.int p0), .val (.int p1), .val (.int (0 : Int32)), .val (.int (p1.toInt8.toInt32)), .val (.int (((p1.toUInt32 >>> ((8 : Int32) &&& 31).toUInt32).toInt32).toInt8.toInt32)), .val (.int (((p1.toUInt32 >>> ((16 : Int32) &&& 31).toUInt32).toInt32).toInt8.toInt32)), .val (.int (((p1.toUInt32 >>> ((24 : Int32) &&& 31).toUInt32).toInt32).toInt8.toInt32)), .val (.ref b2), .unset, .unset, .unset] []))
  refine ogoW (fun t k => XS.iloadN X2.here hx rfl (hb hby at_56) rfl k) ?_
  show OwnEndsW _ _ _ _ _ _ _ (T2.setTop (mkF m 57 #[.val (.int p0), .val (.int p1), .val (.int (0 : Int32)), .val (.int (p1.toInt8.toInt32)), .val (.int (((p1.toUInt32 >>> ((8 : Int32) &&& 31).toUInt32).toInt32).toInt8.toInt32)), .val (.int (((p1.toUInt32 >>> ((16 : Int32) &&& 31).toUInt32).toInt32).toInt8.toInt32)), .val (.int (((p1.toUInt32 >>> ((24 : Int32) &&& 31).toUInt32).toInt32).toInt8.toInt32)), .val (.ref b2), .unset, .unset, .unset] [(.int (0 : Int32))]))
  refine ogoW (fun t k => XS.iconst X2.here hx rfl (hb hby at_57) k) ?_
  show OwnEndsW _ _ _ _ _ _ _ (T2.setTop (mkF m 58 #[.val (.int p0), .val (.int p1), .val (.int (0 : Int32)), .val (.int (p1.toInt8.toInt32)), .val (.int (((p1.toUInt32 >>> ((8 : Int32) &&& 31).toUInt32).toInt32).toInt8.toInt32)), .val (.int (((p1.toUInt32 >>> ((16 : Int32) &&& 31).toUInt32).toInt32).toInt8.toInt32)), .val (.int (((p1.toUInt32 >>> ((24 : Int32) &&& 31).toUInt32).toInt32).toInt8.toInt32)), .val (.ref b2), .unset, .unset, .unset] [(.int (2 : Int32)), (.int (0 : Int32))]))
  refine ogoW (fun t k => XS.icmpYes X2.here hx rfl (pc0 := 58) (pc' := 67) rfl (hb hby at_58) rfl (flt (by decide : ¬ ((2 : Int32) < (0 : Int32)))).2.2.2 (by decide) (by decide) k) ?_
  show OwnEndsW _ _ _ _ _ _ _ (T2.setTop (mkF m 67 #[.val (.int p0), .val (.int p1), .val (.int (0 : Int32)), .val (.int (p1.toInt8.toInt32)), .val (.int (((p1.toUInt32 >>> ((8 : Int32) &&& 31).toUInt32).toInt32).toInt8.toInt32)), .val (.int (((p1.toUInt32 >>> ((16 : Int32) &&& 31).toUInt32).toInt32).toInt8.toInt32)), .val (.int (((p1.toUInt32 >>> ((24 : Int32) &&& 31).toUInt32).toInt32).toInt8.toInt32)), .val (.ref b2), .unset, .unset, .unset] []))
  refine ogoW (fun t k => XS.iloadN X2.here hx rfl (hb hby at_67) rfl k) ?_
  show OwnEndsW _ _ _ _ _ _ _ (T2.setTop (mkF m 68 #[.val (.int p0), .val (.int p1), .val (.int (0 : Int32)), .val (.int (p1.toInt8.toInt32)), .val (.int (((p1.toUInt32 >>> ((8 : Int32) &&& 31).toUInt32).toInt32).toInt8.toInt32)), .val (.int (((p1.toUInt32 >>> ((16 : Int32) &&& 31).toUInt32).toInt32).toInt8.toInt32)), .val (.int (((p1.toUInt32 >>> ((24 : Int32) &&& 31).toUInt32).toInt32).toInt8.toInt32)), .val (.ref b2), .unset, .unset, .unset] [(.int (0 : Int32))]))
  refine ogoW (fun t k => XS.iconst X2.here hx rfl (hb hby at_68) k) ?_
  show OwnEndsW _ _ _ _ _ _ _ (T2.setTop (mkF m 69 #[.val (.int p0), .val (.int p1), .val (.int (0 : Int32)), .val (.int (p1.toInt8.toInt32)), .val (.int (((p1.toUInt32 >>> ((8 : Int32) &&& 31).toUInt32).toInt32).toInt8.toInt32)), .val (.int (((p1.toUInt32 >>> ((16 : Int32) &&& 31).toUInt32).toInt32).toInt8.toInt32)), .val (.int (((p1.toUInt32 >>> ((24 : Int32) &&& 31).toUInt32).toInt32).toInt8.toInt32)), .val (.ref b2), .unset, .unset, .unset] [(.int (3 : Int32)), (.int (0 : Int32))]))
  refine ogoW (fun t k => XS.icmpYes X2.here hx rfl (pc0 := 69) (pc' := 78) rfl (hb hby at_69) rfl (flt (by decide : ¬ ((3 : Int32) < (0 : Int32)))).2.2.2 (by decide) (by decide) k) ?_
  show OwnEndsW _ _ _ _ _ _ _ (T2.setTop (mkF m 78 #[.val (.int p0), .val (.int p1), .val (.int (0 : Int32)), .val (.int (p1.toInt8.toInt32)), .val (.int (((p1.toUInt32 >>> ((8 : Int32) &&& 31).toUInt32).toInt32).toInt8.toInt32)), .val (.int (((p1.toUInt32 >>> ((16 : Int32) &&& 31).toUInt32).toInt32).toInt8.toInt32)), .val (.int (((p1.toUInt32 >>> ((24 : Int32) &&& 31).toUInt32).toInt32).toInt8.toInt32)), .val (.ref b2), .unset, .unset, .unset] []))
  refine ogoW (fun t k => XS.aload X2.here hx rfl (hb hby at_78) rfl rfl k) ?_
  show OwnEndsW _ _ _ _ _ _ _ (T2.setTop (mkF m 80 #[.val (.int p0), .val (.int p1), .val (.int (0 : Int32)), .val (.int (p1.toInt8.toInt32)), .val (.int (((p1.toUInt32 >>> ((8 : Int32) &&& 31).toUInt32).toInt32).toInt8.toInt32)), .val (.int (((p1.toUInt32 >>> ((16 : Int32) &&& 31).toUInt32).toInt32).toInt8.toInt32)), .val (.int (((p1.toUInt32 >>> ((24 : Int32) &&& 31).toUInt32).toInt32).toInt8.toInt32)), .val (.ref b2), .unset, .unset, .unset] [(.ref b2)]))
  obtain ⟨v4, _, ⟨T4, L4, k4, n4⟩, -, X4, hSq4, hgq4, ⟨Lc4, hQ4, l4, y4, z4⟩, st4⟩ := callSS X2 hx (y := (⟨"com/example/once_guard/onceguard/ClaimResult", "inProgress", "([B)Lcom/example/once_guard/onceguard/ClaimResult;"⟩ : MethodName)) hown (mvT hZ (hw _ (List.mem_of_getElem? (i := 2) rfl))) (mvT hZ (hw _ (List.mem_of_getElem? (i := 3) rfl))) (mvT hZ (hw _ (List.mem_of_getElem? (i := 4) rfl))) (mvT hZ (hw _ (List.mem_of_getElem? (i := 5) rfl))) (by decide) (backOfS (W := 0) (rm5 l Z a0 hw [] b2 (0 : Int32) [] w_IN_PROGRESS h2 n0 Z3 OLD3 S_IN_PROGRESS ⟨_, V2⟩ B2 (by decide)) hZ (hw _ (List.mem_of_getElem? (i := 5) rfl)) (hw _ (List.mem_of_getElem? (i := 4) rfl)) (by decide) (by decide)) (g := (mkF m 80 #[.val (.int p0), .val (.int p1), .val (.int (0 : Int32)), .val (.int (p1.toInt8.toInt32)), .val (.int (((p1.toUInt32 >>> ((8 : Int32) &&& 31).toUInt32).toInt32).toInt8.toInt32)), .val (.int (((p1.toUInt32 >>> ((16 : Int32) &&& 31).toUInt32).toInt32).toInt8.toInt32)), .val (.int (((p1.toUInt32 >>> ((24 : Int32) &&& 31).toUInt32).toInt32).toInt8.toInt32)), .val (.ref b2), .unset, .unset, .unset] [(.ref b2)])) rfl (by rw [hml]; rfl) (argsL := [(.ref b2)]) (rest := []) (lenOf pd_f29d2ef6 rfl) rfl (by show 2 * 0 + _ ≤ _; exact Nat.le_of_eq rfl) (hb hby at_80) (fun _ _ => ⟨rfl, e2, (by decide : 1 + 4 ≤ _), (by decide : 0 + 132 ≤ _)⟩)
  dsimp only [Pt.U, Pt.locs, Pt.cells, Pt.slots] at X4 l4 y4 z4 st4 hQ4 hSq4 hgq4
  subst l4 y4 z4
  obtain ⟨X4, hS4, hZ, hown⟩ := rebS hS0 (by rw [e2]; exact (Nat.zero_le _)) X4 hSq4 hgq4 hZ hown
  obtain ⟨r4, x4, rfl, Sq4, Sp4, N4q, Kq4, Eq4, Fa4, Fb4, Vq4, Ec4⟩ := hQ4
  have N4 := Fr.app N0 N4q
  have ne_b2_r4 : b2 ≠ r4 := Nat.ne_of_lt (Nat.lt_of_lt_of_le (V2).lt Sq4)
  have q_r4 : n0 ≤ r4 := Nat.le_trans Z3 Sq4
  have sz_r4 : h0.size ≤ r4 := Nat.le_trans K3.1 Sq4
  have ne_b2_x4 : b2 ≠ x4 := Nat.ne_of_lt (Nat.lt_of_lt_of_le (V2).lt Sp4)
  have q_x4 : n0 ≤ x4 := Nat.le_trans Z3 Sp4
  have sz_x4 : h0.size ≤ x4 := Nat.le_trans K3.1 Sp4
  have f5 := V2.keep Kq4 nin0
  have f6 := B2.keep Kq4
  have OLD7 := OLD3.keep Kq4 all0
  have K7 := K3.trans Kq4 all0
  have Z7 := Nat.le_trans Z3 Kq4.1
  refine ogoW (fun t k => st4.trans k) ?_
  show OwnEndsW _ _ _ _ _ _ _ (T4.setTop (mkF m 83 #[.val (.int p0), .val (.int p1), .val (.int (0 : Int32)), .val (.int (p1.toInt8.toInt32)), .val (.int (((p1.toUInt32 >>> ((8 : Int32) &&& 31).toUInt32).toInt32).toInt8.toInt32)), .val (.int (((p1.toUInt32 >>> ((16 : Int32) &&& 31).toUInt32).toInt32).toInt8.toInt32)), .val (.int (((p1.toUInt32 >>> ((24 : Int32) &&& 31).toUInt32).toInt32).toInt8.toInt32)), .val (.ref b2), .unset, .unset, .unset] [(.ref r4)]))
  refine ogoW (fun t k => XS.astore X4.here hx rfl (hb hby at_83) rfl rfl (l' := #[.val (.int p0), .val (.int p1), .val (.int (0 : Int32)), .val (.int (p1.toInt8.toInt32)), .val (.int (((p1.toUInt32 >>> ((8 : Int32) &&& 31).toUInt32).toInt32).toInt8.toInt32)), .val (.int (((p1.toUInt32 >>> ((16 : Int32) &&& 31).toUInt32).toInt32).toInt8.toInt32)), .val (.int (((p1.toUInt32 >>> ((24 : Int32) &&& 31).toUInt32).toInt32).toInt8.toInt32)), .val (.ref b2), .val (.ref r4), .unset, .unset]) rfl k) ?_
  show OwnEndsW _ _ _ _ _ _ _ (T4.setTop (mkF m 85 #[.val (.int p0), .val (.int p1), .val (.int (0 : Int32)), .val (.int (p1.toInt8.toInt32)), .val (.int (((p1.toUInt32 >>> ((8 : Int32) &&& 31).toUInt32).toInt32).toInt8.toInt32)), .val (.int (((p1.toUInt32 >>> ((16 : Int32) &&& 31).toUInt32).toInt32).toInt8.toInt32)), .val (.int (((p1.toUInt32 >>> ((24 : Int32) &&& 31).toUInt32).toInt32).toInt8.toInt32)), .val (.ref b2), .val (.ref r4), .unset, .unset] []))
  refine ogoW (fun t k => XS.iloadN X4.here hx rfl (hb hby at_85) rfl k) ?_
  show OwnEndsW _ _ _ _ _ _ _ (T4.setTop (mkF m 86 #[.val (.int p0), .val (.int p1), .val (.int (0 : Int32)), .val (.int (p1.toInt8.toInt32)), .val (.int (((p1.toUInt32 >>> ((8 : Int32) &&& 31).toUInt32).toInt32).toInt8.toInt32)), .val (.int (((p1.toUInt32 >>> ((16 : Int32) &&& 31).toUInt32).toInt32).toInt8.toInt32)), .val (.int (((p1.toUInt32 >>> ((24 : Int32) &&& 31).toUInt32).toInt32).toInt8.toInt32)), .val (.ref b2), .val (.ref r4), .unset, .unset] [(.int (0 : Int32))]))
  refine ogoW (fun t k => XS.ifYes X4.here hx rfl (pc0 := 86) (pc' := 97) rfl (hb hby at_86) rfl ((if0 _ _).trans (flt (by decide : ¬ ((0 : Int32) < (0 : Int32)))).2.2.2) (by decide) (by decide) k) ?_
  show OwnEndsW _ _ _ _ _ _ _ (T4.setTop (mkF m 97 #[.val (.int p0), .val (.int p1), .val (.int (0 : Int32)), .val (.int (p1.toInt8.toInt32)), .val (.int (((p1.toUInt32 >>> ((8 : Int32) &&& 31).toUInt32).toInt32).toInt8.toInt32)), .val (.int (((p1.toUInt32 >>> ((16 : Int32) &&& 31).toUInt32).toInt32).toInt8.toInt32)), .val (.int (((p1.toUInt32 >>> ((24 : Int32) &&& 31).toUInt32).toInt32).toInt8.toInt32)), .val (.ref b2), .val (.ref r4), .unset, .unset] []))
  refine ogoW (fun t k => XS.iloadN X4.here hx rfl (hb hby at_97) rfl k) ?_
  show OwnEndsW _ _ _ _ _ _ _ (T4.setTop (mkF m 98 #[.val (.int p0), .val (.int p1), .val (.int (0 : Int32)), .val (.int (p1.toInt8.toInt32)), .val (.int (((p1.toUInt32 >>> ((8 : Int32) &&& 31).toUInt32).toInt32).toInt8.toInt32)), .val (.int (((p1.toUInt32 >>> ((16 : Int32) &&& 31).toUInt32).toInt32).toInt8.toInt32)), .val (.int (((p1.toUInt32 >>> ((24 : Int32) &&& 31).toUInt32).toInt32).toInt8.toInt32)), .val (.ref b2), .val (.ref r4), .unset, .unset] [(.int (0 : Int32))]))
  refine ogoW (fun t k => XS.iconst X4.here hx rfl (hb hby at_98) k) ?_
  show OwnEndsW _ _ _ _ _ _ _ (T4.setTop (mkF m 99 #[.val (.int p0), .val (.int p1), .val (.int (0 : Int32)), .val (.int (p1.toInt8.toInt32)), .val (.int (((p1.toUInt32 >>> ((8 : Int32) &&& 31).toUInt32).toInt32).toInt8.toInt32)), .val (.int (((p1.toUInt32 >>> ((16 : Int32) &&& 31).toUInt32).toInt32).toInt8.toInt32)), .val (.int (((p1.toUInt32 >>> ((24 : Int32) &&& 31).toUInt32).toInt32).toInt8.toInt32)), .val (.ref b2), .val (.ref r4), .unset, .unset] [(.int (1 : Int32)), (.int (0 : Int32))]))
  refine ogoW (fun t k => XS.icmpYes X4.here hx rfl (pc0 := 99) (pc' := 111) rfl (hb hby at_99) rfl (flt (by decide : ¬ ((1 : Int32) < (0 : Int32)))).2.2.2 (by decide) (by decide) k) ?_
  show OwnEndsW _ _ _ _ _ _ _ (T4.setTop (mkF m 111 #[.val (.int p0), .val (.int p1), .val (.int (0 : Int32)), .val (.int (p1.toInt8.toInt32)), .val (.int (((p1.toUInt32 >>> ((8 : Int32) &&& 31).toUInt32).toInt32).toInt8.toInt32)), .val (.int (((p1.toUInt32 >>> ((16 : Int32) &&& 31).toUInt32).toInt32).toInt8.toInt32)), .val (.int (((p1.toUInt32 >>> ((24 : Int32) &&& 31).toUInt32).toInt32).toInt8.toInt32)), .val (.ref b2), .val (.ref r4), .unset, .unset] []))
  refine ogoW (fun t k => XS.iloadN X4.here hx rfl (hb hby at_111) rfl k) ?_
  show OwnEndsW _ _ _ _ _ _ _ (T4.setTop (mkF m 112 #[.val (.int p0), .val (.int p1), .val (.int (0 : Int32)), .val (.int (p1.toInt8.toInt32)), .val (.int (((p1.toUInt32 >>> ((8 : Int32) &&& 31).toUInt32).toInt32).toInt8.toInt32)), .val (.int (((p1.toUInt32 >>> ((16 : Int32) &&& 31).toUInt32).toInt32).toInt8.toInt32)), .val (.int (((p1.toUInt32 >>> ((24 : Int32) &&& 31).toUInt32).toInt32).toInt8.toInt32)), .val (.ref b2), .val (.ref r4), .unset, .unset] [(.int (0 : Int32))]))
  refine ogoW (fun t k => XS.iconst X4.here hx rfl (hb hby at_112) k) ?_
  show OwnEndsW _ _ _ _ _ _ _ (T4.setTop (mkF m 113 #[.val (.int p0), .val (.int p1), .val (.int (0 : Int32)), .val (.int (p1.toInt8.toInt32)), .val (.int (((p1.toUInt32 >>> ((8 : Int32) &&& 31).toUInt32).toInt32).toInt8.toInt32)), .val (.int (((p1.toUInt32 >>> ((16 : Int32) &&& 31).toUInt32).toInt32).toInt8.toInt32)), .val (.int (((p1.toUInt32 >>> ((24 : Int32) &&& 31).toUInt32).toInt32).toInt8.toInt32)), .val (.ref b2), .val (.ref r4), .unset, .unset] [(.int (2 : Int32)), (.int (0 : Int32))]))
  refine ogoW (fun t k => XS.icmpYes X4.here hx rfl (pc0 := 113) (pc' := 125) rfl (hb hby at_113) rfl (flt (by decide : ¬ ((2 : Int32) < (0 : Int32)))).2.2.2 (by decide) (by decide) k) ?_
  show OwnEndsW _ _ _ _ _ _ _ (T4.setTop (mkF m 125 #[.val (.int p0), .val (.int p1), .val (.int (0 : Int32)), .val (.int (p1.toInt8.toInt32)), .val (.int (((p1.toUInt32 >>> ((8 : Int32) &&& 31).toUInt32).toInt32).toInt8.toInt32)), .val (.int (((p1.toUInt32 >>> ((16 : Int32) &&& 31).toUInt32).toInt32).toInt8.toInt32)), .val (.int (((p1.toUInt32 >>> ((24 : Int32) &&& 31).toUInt32).toInt32).toInt8.toInt32)), .val (.ref b2), .val (.ref r4), .unset, .unset] []))
  refine ogoW (fun t k => XS.iloadN X4.here hx rfl (hb hby at_125) rfl k) ?_
  show OwnEndsW _ _ _ _ _ _ _ (T4.setTop (mkF m 126 #[.val (.int p0), .val (.int p1), .val (.int (0 : Int32)), .val (.int (p1.toInt8.toInt32)), .val (.int (((p1.toUInt32 >>> ((8 : Int32) &&& 31).toUInt32).toInt32).toInt8.toInt32)), .val (.int (((p1.toUInt32 >>> ((16 : Int32) &&& 31).toUInt32).toInt32).toInt8.toInt32)), .val (.int (((p1.toUInt32 >>> ((24 : Int32) &&& 31).toUInt32).toInt32).toInt8.toInt32)), .val (.ref b2), .val (.ref r4), .unset, .unset] [(.int (0 : Int32))]))
  refine ogoW (fun t k => XS.iconst X4.here hx rfl (hb hby at_126) k) ?_
  show OwnEndsW _ _ _ _ _ _ _ (T4.setTop (mkF m 127 #[.val (.int p0), .val (.int p1), .val (.int (0 : Int32)), .val (.int (p1.toInt8.toInt32)), .val (.int (((p1.toUInt32 >>> ((8 : Int32) &&& 31).toUInt32).toInt32).toInt8.toInt32)), .val (.int (((p1.toUInt32 >>> ((16 : Int32) &&& 31).toUInt32).toInt32).toInt8.toInt32)), .val (.int (((p1.toUInt32 >>> ((24 : Int32) &&& 31).toUInt32).toInt32).toInt8.toInt32)), .val (.ref b2), .val (.ref r4), .unset, .unset] [(.int (3 : Int32)), (.int (0 : Int32))]))
  refine ogoW (fun t k => XS.icmpYes X4.here hx rfl (pc0 := 127) (pc' := 139) rfl (hb hby at_127) rfl (flt (by decide : ¬ ((3 : Int32) < (0 : Int32)))).2.2.2 (by decide) (by decide) k) ?_
  show OwnEndsW _ _ _ _ _ _ _ (T4.setTop (mkF m 139 #[.val (.int p0), .val (.int p1), .val (.int (0 : Int32)), .val (.int (p1.toInt8.toInt32)), .val (.int (((p1.toUInt32 >>> ((8 : Int32) &&& 31).toUInt32).toInt32).toInt8.toInt32)), .val (.int (((p1.toUInt32 >>> ((16 : Int32) &&& 31).toUInt32).toInt32).toInt8.toInt32)), .val (.int (((p1.toUInt32 >>> ((24 : Int32) &&& 31).toUInt32).toInt32).toInt8.toInt32)), .val (.ref b2), .val (.ref r4), .unset, .unset] []))
  refine ogoW (fun t k => XS.aload X4.here hx rfl (hb hby at_139) rfl rfl k) ?_
  show OwnEndsW _ _ _ _ _ _ _ (T4.setTop (mkF m 141 #[.val (.int p0), .val (.int p1), .val (.int (0 : Int32)), .val (.int (p1.toInt8.toInt32)), .val (.int (((p1.toUInt32 >>> ((8 : Int32) &&& 31).toUInt32).toInt32).toInt8.toInt32)), .val (.int (((p1.toUInt32 >>> ((16 : Int32) &&& 31).toUInt32).toInt32).toInt8.toInt32)), .val (.int (((p1.toUInt32 >>> ((24 : Int32) &&& 31).toUInt32).toInt32).toInt8.toInt32)), .val (.ref b2), .val (.ref r4), .unset, .unset] [(.ref r4)]))
  obtain ⟨cq8, kq8, q8a, q8b, q8c⟩ := isOf hZ rfl Eq4
  obtain ⟨v8, _, ⟨T8, L8, k8, n8⟩, -, X8, ⟨Lc8, hQ8, l8, y8, z8⟩, st8⟩ := X4.virtualBack hx (y := (⟨"com/example/once_guard/onceguard/ClaimResult", "state", "()Lcom/example/once_guard/onceguard/ClaimResult$State;"⟩ : MethodName)) (z := (⟨"com/example/once_guard/onceguard/ClaimResult", "state", "()Lcom/example/once_guard/onceguard/ClaimResult$State;"⟩ : MethodName)) hown (mvT hZ (hw _ (List.mem_of_getElem? (i := 45) rfl))) (mvT hZ (hw _ (List.mem_of_getElem? (i := 46) rfl))) (notFace_of_selects (args := #[]) (mvT hZ (hw _ (List.mem_of_getElem? (i := 48) rfl)))) (mvT hZ (hw _ (List.mem_of_getElem? (i := 48) rfl))) (mvT hZ (hw _ (List.mem_of_getElem? (i := 47) rfl))) (by decide) (backOf (W := 0) (rm3 l Z a0 hw [] r4 w_IN_PROGRESS T4.heap n0 Z7 Fa4) hZ (hw _ (List.mem_of_getElem? (i := 49) rfl)) (hw _ (List.mem_of_getElem? (i := 4) rfl)) (by decide) (by decide)) q8a q8c (g := (mkF m 141 #[.val (.int p0), .val (.int p1), .val (.int (0 : Int32)), .val (.int (p1.toInt8.toInt32)), .val (.int (((p1.toUInt32 >>> ((8 : Int32) &&& 31).toUInt32).toInt32).toInt8.toInt32)), .val (.int (((p1.toUInt32 >>> ((16 : Int32) &&& 31).toUInt32).toInt32).toInt8.toInt32)), .val (.int (((p1.toUInt32 >>> ((24 : Int32) &&& 31).toUInt32).toInt32).toInt8.toInt32)), .val (.ref b2), .val (.ref r4), .unset, .unset] [(.ref r4)])) rfl (by rw [hml]; rfl) (Steps.refl _) (argsL := []) (rest := []) (lenOf pd___Lcom_example_once_guard_onceguard_ClaimResult_State_ rfl) rfl (by show 2 * 0 + _ ≤ _; exact Nat.le_of_eq rfl) (hb hby at_141) (fun _ _ => ⟨rfl, rfl, (by decide : 5 + 0 ≤ _), (by decide : 132 + 0 ≤ _)⟩)
  dsimp only [Pt.U, Pt.locs, Pt.cells, Pt.slots] at X8 l8 y8 z8 st8 hQ8
  subst l8 y8 z8
  obtain ⟨rfl, N8q, e8⟩ := hQ8
  have N8 := Fr.app N4 N8q
  refine ogoW (fun t k => st8.trans k) ?_
  show OwnEndsW _ _ _ _ _ _ _ (T8.setTop (mkF m 144 #[.val (.int p0), .val (.int p1), .val (.int (0 : Int32)), .val (.int (p1.toInt8.toInt32)), .val (.int (((p1.toUInt32 >>> ((8 : Int32) &&& 31).toUInt32).toInt32).toInt8.toInt32)), .val (.int (((p1.toUInt32 >>> ((16 : Int32) &&& 31).toUInt32).toInt32).toInt8.toInt32)), .val (.int (((p1.toUInt32 >>> ((24 : Int32) &&& 31).toUInt32).toInt32).toInt8.toInt32)), .val (.ref b2), .val (.ref r4), .unset, .unset] [(.ref w_IN_PROGRESS)]))
  obtain ⟨T9, X9, e9, st9⟩ := getS2 X8 hx hZ hown (host := "") (Or.inl (hw _ (List.mem_of_getElem? (i := 50) rfl))) Via.refl e8 (S_IN_PROGRESS.ext OLD7.2) (g := (mkF m 144 #[.val (.int p0), .val (.int p1), .val (.int (0 : Int32)), .val (.int (p1.toInt8.toInt32)), .val (.int (((p1.toUInt32 >>> ((8 : Int32) &&& 31).toUInt32).toInt32).toInt8.toInt32)), .val (.int (((p1.toUInt32 >>> ((16 : Int32) &&& 31).toUInt32).toInt32).toInt8.toInt32)), .val (.int (((p1.toUInt32 >>> ((24 : Int32) &&& 31).toUInt32).toInt32).toInt8.toInt32)), .val (.ref b2), .val (.ref r4), .unset, .unset] [(.ref w_IN_PROGRESS)])) rfl (hb hby at_144)
  refine ogoW st9 ?_
  show OwnEndsW _ _ _ _ _ _ _ (T9.setTop (mkF m 147 #[.val (.int p0), .val (.int p1), .val (.int (0 : Int32)), .val (.int (p1.toInt8.toInt32)), .val (.int (((p1.toUInt32 >>> ((8 : Int32) &&& 31).toUInt32).toInt32).toInt8.toInt32)), .val (.int (((p1.toUInt32 >>> ((16 : Int32) &&& 31).toUInt32).toInt32).toInt8.toInt32)), .val (.int (((p1.toUInt32 >>> ((24 : Int32) &&& 31).toUInt32).toInt32).toInt8.toInt32)), .val (.ref b2), .val (.ref r4), .unset, .unset] [(.ref w_IN_PROGRESS), (.ref w_IN_PROGRESS)]))
  refine ogoW (fun t k => Jvm.RoadKit.acmp (g := (mkF m 147 #[.val (.int p0), .val (.int p1), .val (.int (0 : Int32)), .val (.int (p1.toInt8.toInt32)), .val (.int (((p1.toUInt32 >>> ((8 : Int32) &&& 31).toUInt32).toInt32).toInt8.toInt32)), .val (.int (((p1.toUInt32 >>> ((16 : Int32) &&& 31).toUInt32).toInt32).toInt8.toInt32)), .val (.int (((p1.toUInt32 >>> ((24 : Int32) &&& 31).toUInt32).toInt32).toInt8.toInt32)), .val (.ref b2), .val (.ref r4), .unset, .unset] [(.ref w_IN_PROGRESS), (.ref w_IN_PROGRESS)])) X9 hx rfl rfl rfl (pc0 := 147) (pc' := 152) (same := true) rfl (hb hby at_147) rfl (decide_eq_true (congrArg Value.ref rfl)) (by decide) (by decide) k) ?_
  show OwnEndsW _ _ _ _ _ _ _ (T9.setTop (mkF m 152 #[.val (.int p0), .val (.int p1), .val (.int (0 : Int32)), .val (.int (p1.toInt8.toInt32)), .val (.int (((p1.toUInt32 >>> ((8 : Int32) &&& 31).toUInt32).toInt32).toInt8.toInt32)), .val (.int (((p1.toUInt32 >>> ((16 : Int32) &&& 31).toUInt32).toInt32).toInt8.toInt32)), .val (.int (((p1.toUInt32 >>> ((24 : Int32) &&& 31).toUInt32).toInt32).toInt8.toInt32)), .val (.ref b2), .val (.ref r4), .unset, .unset] []))
  refine ogoW (fun t k => XS.aload X9.here hx rfl (hb hby at_152) rfl rfl k) ?_
  show OwnEndsW _ _ _ _ _ _ _ (T9.setTop (mkF m 154 #[.val (.int p0), .val (.int p1), .val (.int (0 : Int32)), .val (.int (p1.toInt8.toInt32)), .val (.int (((p1.toUInt32 >>> ((8 : Int32) &&& 31).toUInt32).toInt32).toInt8.toInt32)), .val (.int (((p1.toUInt32 >>> ((16 : Int32) &&& 31).toUInt32).toInt32).toInt8.toInt32)), .val (.int (((p1.toUInt32 >>> ((24 : Int32) &&& 31).toUInt32).toInt32).toInt8.toInt32)), .val (.ref b2), .val (.ref r4), .unset, .unset] [(.ref r4)]))
  obtain ⟨cq10, kq10, q10a, q10b, q10c⟩ := isOf hZ e9 Eq4
  obtain ⟨v10, _, ⟨T10, L10, k10, n10⟩, -, X10, ⟨Lc10, hQ10, l10, y10, z10⟩, st10⟩ := X9.virtualBack hx (y := (⟨"com/example/once_guard/onceguard/ClaimResult", "payloadDigest", "()[B"⟩ : MethodName)) (z := (⟨"com/example/once_guard/onceguard/ClaimResult", "payloadDigest", "()[B"⟩ : MethodName)) hown (mvT hZ (hw _ (List.mem_of_getElem? (i := 51) rfl))) (mvT hZ (hw _ (List.mem_of_getElem? (i := 52) rfl))) (notFace_of_selects (args := #[]) (mvT hZ (hw _ (List.mem_of_getElem? (i := 54) rfl)))) (mvT hZ (hw _ (List.mem_of_getElem? (i := 54) rfl))) (mvT hZ (hw _ (List.mem_of_getElem? (i := 53) rfl))) (by decide) (backOf (W := 0) (rm4 l Z a0 hw [] r4 x4 (0 : Int32) [] w_IN_PROGRESS w_CLAIMED T4.heap n0 Z7 OLD7 S_CLAIMED Fa4 Fb4 Vq4 Ec4 (by decide) (Fld.ne F_ordinal_IN_PROGRESS F_ordinal_CLAIMED (by simp))) hZ (hw _ (List.mem_of_getElem? (i := 55) rfl)) (hw _ (List.mem_of_getElem? (i := 4) rfl)) (by decide) (by decide)) q10a q10c (g := (mkF m 154 #[.val (.int p0), .val (.int p1), .val (.int (0 : Int32)), .val (.int (p1.toInt8.toInt32)), .val (.int (((p1.toUInt32 >>> ((8 : Int32) &&& 31).toUInt32).toInt32).toInt8.toInt32)), .val (.int (((p1.toUInt32 >>> ((16 : Int32) &&& 31).toUInt32).toInt32).toInt8.toInt32)), .val (.int (((p1.toUInt32 >>> ((24 : Int32) &&& 31).toUInt32).toInt32).toInt8.toInt32)), .val (.ref b2), .val (.ref r4), .unset, .unset] [(.ref r4)])) rfl (by rw [hml]; rfl) (Steps.refl _) (argsL := []) (rest := []) (lenOf pd____B rfl) rfl (by show 2 * 0 + _ ≤ _; exact Nat.le_of_eq rfl) (hb hby at_154) (fun _ _ => ⟨rfl, e9, (by decide : 5 + 1 ≤ _), (by decide : 132 + 4 ≤ _)⟩)
  dsimp only [Pt.U, Pt.locs, Pt.cells, Pt.slots] at X10 l10 y10 z10 st10 hQ10
  subst l10 y10 z10
  obtain ⟨r10, rfl, Sq10, N10q, Kq10, Vq10, Eq10⟩ := hQ10
  have N10 := Fr.app N8 N10q
  have ne_b2_r10 : b2 ≠ r10 := Nat.ne_of_lt (Nat.lt_of_lt_of_le (f5).lt Sq10)
  have ne_r4_r10 : r4 ≠ r10 := Nat.ne_of_lt (Nat.lt_of_lt_of_le (Eq4).lt Sq10)
  have ne_x4_r10 : x4 ≠ r10 := Nat.ne_of_lt (Nat.lt_of_lt_of_le (Vq4).lt Sq10)
  have q_r10 : n0 ≤ r10 := Nat.le_trans Z7 Sq10
  have sz_r10 : h0.size ≤ r10 := Nat.le_trans K7.1 Sq10
  have f11 := f5.keep Kq10 nin0
  have f12 := f6.keep Kq10
  have f13 := Eq4.keep Kq10
  have f14 := Fa4.keep Kq10 nin0
  have f15 := Fb4.keep Kq10 nin0
  have f16 := Vq4.keep Kq10 nin0
  have f17 := Ec4.keep Kq10
  have OLD18 := OLD7.keep Kq10 all0
  have K18 := K7.trans Kq10 all0
  have Z18 := Nat.le_trans Z7 Kq10.1
  have hk19 := Nat.le_trans (Nat.le_refl _) Kq10.1
  refine ogoW (fun t k => st10.trans k) ?_
  show OwnEndsW _ _ _ _ _ _ _ (T10.setTop (mkF m 157 #[.val (.int p0), .val (.int p1), .val (.int (0 : Int32)), .val (.int (p1.toInt8.toInt32)), .val (.int (((p1.toUInt32 >>> ((8 : Int32) &&& 31).toUInt32).toInt32).toInt8.toInt32)), .val (.int (((p1.toUInt32 >>> ((16 : Int32) &&& 31).toUInt32).toInt32).toInt8.toInt32)), .val (.int (((p1.toUInt32 >>> ((24 : Int32) &&& 31).toUInt32).toInt32).toInt8.toInt32)), .val (.ref b2), .val (.ref r4), .unset, .unset] [(.ref r10)]))
  refine ogoW (fun t k => XS.astore X10.here hx rfl (hb hby at_157) rfl rfl (l' := #[.val (.int p0), .val (.int p1), .val (.int (0 : Int32)), .val (.int (p1.toInt8.toInt32)), .val (.int (((p1.toUInt32 >>> ((8 : Int32) &&& 31).toUInt32).toInt32).toInt8.toInt32)), .val (.int (((p1.toUInt32 >>> ((16 : Int32) &&& 31).toUInt32).toInt32).toInt8.toInt32)), .val (.int (((p1.toUInt32 >>> ((24 : Int32) &&& 31).toUInt32).toInt32).toInt8.toInt32)), .val (.ref b2), .val (.ref r4), .val (.ref r10), .unset]) rfl k) ?_
  show OwnEndsW _ _ _ _ _ _ _ (T10.setTop (mkF m 159 #[.val (.int p0), .val (.int p1), .val (.int (0 : Int32)), .val (.int (p1.toInt8.toInt32)), .val (.int (((p1.toUInt32 >>> ((8 : Int32) &&& 31).toUInt32).toInt32).toInt8.toInt32)), .val (.int (((p1.toUInt32 >>> ((16 : Int32) &&& 31).toUInt32).toInt32).toInt8.toInt32)), .val (.int (((p1.toUInt32 >>> ((24 : Int32) &&& 31).toUInt32).toInt32).toInt8.toInt32)), .val (.ref b2), .val (.ref r4), .val (.ref r10), .unset] []))
  refine ogoW (fun t k => XS.aload X10.here hx rfl (hb hby at_159) rfl rfl k) ?_
  show OwnEndsW _ _ _ _ _ _ _ (T10.setTop (mkF m 161 #[.val (.int p0), .val (.int p1), .val (.int (0 : Int32)), .val (.int (p1.toInt8.toInt32)), .val (.int (((p1.toUInt32 >>> ((8 : Int32) &&& 31).toUInt32).toInt32).toInt8.toInt32)), .val (.int (((p1.toUInt32 >>> ((16 : Int32) &&& 31).toUInt32).toInt32).toInt8.toInt32)), .val (.int (((p1.toUInt32 >>> ((24 : Int32) &&& 31).toUInt32).toInt32).toInt8.toInt32)), .val (.ref b2), .val (.ref r4), .val (.ref r10), .unset] [(.ref r10)]))
  refine ogoW (fun t k => XS.iloadN X10.here hx rfl (hb hby at_161) rfl k) ?_
  show OwnEndsW _ _ _ _ _ _ _ (T10.setTop (mkF m 162 #[.val (.int p0), .val (.int p1), .val (.int (0 : Int32)), .val (.int (p1.toInt8.toInt32)), .val (.int (((p1.toUInt32 >>> ((8 : Int32) &&& 31).toUInt32).toInt32).toInt8.toInt32)), .val (.int (((p1.toUInt32 >>> ((16 : Int32) &&& 31).toUInt32).toInt32).toInt8.toInt32)), .val (.int (((p1.toUInt32 >>> ((24 : Int32) &&& 31).toUInt32).toInt32).toInt8.toInt32)), .val (.ref b2), .val (.ref r4), .val (.ref r10), .unset] [(.int (0 : Int32)), (.ref r10)]))
  refine ogoW (fun t k => XS.iloadN X10.here hx rfl (hb hby at_162) rfl k) ?_
  show OwnEndsW _ _ _ _ _ _ _ (T10.setTop (mkF m 163 #[.val (.int p0), .val (.int p1), .val (.int (0 : Int32)), .val (.int (p1.toInt8.toInt32)), .val (.int (((p1.toUInt32 >>> ((8 : Int32) &&& 31).toUInt32).toInt32).toInt8.toInt32)), .val (.int (((p1.toUInt32 >>> ((16 : Int32) &&& 31).toUInt32).toInt32).toInt8.toInt32)), .val (.int (((p1.toUInt32 >>> ((24 : Int32) &&& 31).toUInt32).toInt32).toInt8.toInt32)), .val (.ref b2), .val (.ref r4), .val (.ref r10), .unset] [(.int (p1.toInt8.toInt32)), (.int (0 : Int32)), (.ref r10)]))
  refine ogoW (fun t k => XS.iload X10.here hx rfl (hb hby at_163) rfl k) ?_
  show OwnEndsW _ _ _ _ _ _ _ (T10.setTop (mkF m 165 #[.val (.int p0), .val (.int p1), .val (.int (0 : Int32)), .val (.int (p1.toInt8.toInt32)), .val (.int (((p1.toUInt32 >>> ((8 : Int32) &&& 31).toUInt32).toInt32).toInt8.toInt32)), .val (.int (((p1.toUInt32 >>> ((16 : Int32) &&& 31).toUInt32).toInt32).toInt8.toInt32)), .val (.int (((p1.toUInt32 >>> ((24 : Int32) &&& 31).toUInt32).toInt32).toInt8.toInt32)), .val (.ref b2), .val (.ref r4), .val (.ref r10), .unset] [(.int (((p1.toUInt32 >>> ((8 : Int32) &&& 31).toUInt32).toInt32).toInt8.toInt32)), (.int (p1.toInt8.toInt32)), (.int (0 : Int32)), (.ref r10)]))
  refine ogoW (fun t k => XS.iload X10.here hx rfl (hb hby at_165) rfl k) ?_
  show OwnEndsW _ _ _ _ _ _ _ (T10.setTop (mkF m 167 #[.val (.int p0), .val (.int p1), .val (.int (0 : Int32)), .val (.int (p1.toInt8.toInt32)), .val (.int (((p1.toUInt32 >>> ((8 : Int32) &&& 31).toUInt32).toInt32).toInt8.toInt32)), .val (.int (((p1.toUInt32 >>> ((16 : Int32) &&& 31).toUInt32).toInt32).toInt8.toInt32)), .val (.int (((p1.toUInt32 >>> ((24 : Int32) &&& 31).toUInt32).toInt32).toInt8.toInt32)), .val (.ref b2), .val (.ref r4), .val (.ref r10), .unset] [(.int (((p1.toUInt32 >>> ((16 : Int32) &&& 31).toUInt32).toInt32).toInt8.toInt32)), (.int (((p1.toUInt32 >>> ((8 : Int32) &&& 31).toUInt32).toInt32).toInt8.toInt32)), (.int (p1.toInt8.toInt32)), (.int (0 : Int32)), (.ref r10)]))
  refine ogoW (fun t k => XS.iload X10.here hx rfl (hb hby at_167) rfl k) ?_
  show OwnEndsW _ _ _ _ _ _ _ (T10.setTop (mkF m 169 #[.val (.int p0), .val (.int p1), .val (.int (0 : Int32)), .val (.int (p1.toInt8.toInt32)), .val (.int (((p1.toUInt32 >>> ((8 : Int32) &&& 31).toUInt32).toInt32).toInt8.toInt32)), .val (.int (((p1.toUInt32 >>> ((16 : Int32) &&& 31).toUInt32).toInt32).toInt8.toInt32)), .val (.int (((p1.toUInt32 >>> ((24 : Int32) &&& 31).toUInt32).toInt32).toInt8.toInt32)), .val (.ref b2), .val (.ref r4), .val (.ref r10), .unset] [(.int (((p1.toUInt32 >>> ((24 : Int32) &&& 31).toUInt32).toInt32).toInt8.toInt32)), (.int (((p1.toUInt32 >>> ((16 : Int32) &&& 31).toUInt32).toInt32).toInt8.toInt32)), (.int (((p1.toUInt32 >>> ((8 : Int32) &&& 31).toUInt32).toInt32).toInt8.toInt32)), (.int (p1.toInt8.toInt32)), (.int (0 : Int32)), (.ref r10)]))
  obtain ⟨v20, _, ⟨T20, L20, k20, n20⟩, -, X20, ⟨Lc20, hQ20, l20, y20, z20⟩, st20⟩ := Jvm.LawKit.callS X10 hx (y := (⟨"com/example/once_guard/onceguard/ClaimResultInProgressPinLaw", "same", "([BIBBBB)Z"⟩ : MethodName)) hown (mvT hZ (hw _ (List.mem_of_getElem? (i := 58) rfl))) (mvT hZ (hw _ (List.mem_of_getElem? (i := 59) rfl))) (mvT hZ (hw _ (List.mem_of_getElem? (i := 60) rfl))) (mvT hZ (hw _ (List.mem_of_getElem? (i := 61) rfl))) (by decide) (backOf (W := 0) (rm60 l Z a0 hw [] r10 (p1.toInt8.toInt32) (((p1.toUInt32 >>> ((8 : Int32) &&& 31).toUInt32).toInt32).toInt8.toInt32) (((p1.toUInt32 >>> ((16 : Int32) &&& 31).toUInt32).toInt32).toInt8.toInt32) (((p1.toUInt32 >>> ((24 : Int32) &&& 31).toUInt32).toInt32).toInt8.toInt32) T10.heap n0 Z18 Vq10) hZ (hw _ (List.mem_of_getElem? (i := 61) rfl)) (hw _ (List.mem_of_getElem? (i := 60) rfl)) (by decide) (by decide)) (g := (mkF m 169 #[.val (.int p0), .val (.int p1), .val (.int (0 : Int32)), .val (.int (p1.toInt8.toInt32)), .val (.int (((p1.toUInt32 >>> ((8 : Int32) &&& 31).toUInt32).toInt32).toInt8.toInt32)), .val (.int (((p1.toUInt32 >>> ((16 : Int32) &&& 31).toUInt32).toInt32).toInt8.toInt32)), .val (.int (((p1.toUInt32 >>> ((24 : Int32) &&& 31).toUInt32).toInt32).toInt8.toInt32)), .val (.ref b2), .val (.ref r4), .val (.ref r10), .unset] [(.int (((p1.toUInt32 >>> ((24 : Int32) &&& 31).toUInt32).toInt32).toInt8.toInt32)), (.int (((p1.toUInt32 >>> ((16 : Int32) &&& 31).toUInt32).toInt32).toInt8.toInt32)), (.int (((p1.toUInt32 >>> ((8 : Int32) &&& 31).toUInt32).toInt32).toInt8.toInt32)), (.int (p1.toInt8.toInt32)), (.int (0 : Int32)), (.ref r10)])) rfl (by rw [hml]; rfl) (argsL := [(.ref r10), (.int (0 : Int32)), (.int (p1.toInt8.toInt32)), (.int (((p1.toUInt32 >>> ((8 : Int32) &&& 31).toUInt32).toInt32).toInt8.toInt32)), (.int (((p1.toUInt32 >>> ((16 : Int32) &&& 31).toUInt32).toInt32).toInt8.toInt32)), (.int (((p1.toUInt32 >>> ((24 : Int32) &&& 31).toUInt32).toInt32).toInt8.toInt32))]) (rest := []) (lenOf pd___BIBBBB_Z rfl) rfl (by show 2 * 0 + _ ≤ _; exact Nat.le_of_eq rfl) (hb hby at_169) (fun _ _ => ⟨rfl, rfl, (by decide : 6 + 0 ≤ _), (by decide : 136 + 0 ≤ _)⟩)
  dsimp only [Pt.U, Pt.locs, Pt.cells, Pt.slots] at X20 l20 y20 z20 st20 hQ20
  subst l20 y20 z20
  obtain ⟨rfl, N20q, e20⟩ := hQ20
  have N20 := Fr.app N10 N20q
  refine ogoW (fun t k => st20 t k) ?_
  show OwnEndsW _ _ _ _ _ _ _ (T20.setTop (mkF m 172 #[.val (.int p0), .val (.int p1), .val (.int (0 : Int32)), .val (.int (p1.toInt8.toInt32)), .val (.int (((p1.toUInt32 >>> ((8 : Int32) &&& 31).toUInt32).toInt32).toInt8.toInt32)), .val (.int (((p1.toUInt32 >>> ((16 : Int32) &&& 31).toUInt32).toInt32).toInt8.toInt32)), .val (.int (((p1.toUInt32 >>> ((24 : Int32) &&& 31).toUInt32).toInt32).toInt8.toInt32)), .val (.ref b2), .val (.ref r4), .val (.ref r10), .unset] [(.int (1 : Int32))]))
  refine ogoW (fun t k => XS.ifYes X20.here hx rfl (pc0 := 172) (pc' := 177) rfl (hb hby at_172) rfl ((if0 _ _).trans (feq (by decide : ¬ ((1 : Int32) = (0 : Int32)))).2) (by decide) (by decide) k) ?_
  show OwnEndsW _ _ _ _ _ _ _ (T20.setTop (mkF m 177 #[.val (.int p0), .val (.int p1), .val (.int (0 : Int32)), .val (.int (p1.toInt8.toInt32)), .val (.int (((p1.toUInt32 >>> ((8 : Int32) &&& 31).toUInt32).toInt32).toInt8.toInt32)), .val (.int (((p1.toUInt32 >>> ((16 : Int32) &&& 31).toUInt32).toInt32).toInt8.toInt32)), .val (.int (((p1.toUInt32 >>> ((24 : Int32) &&& 31).toUInt32).toInt32).toInt8.toInt32)), .val (.ref b2), .val (.ref r4), .val (.ref r10), .unset] []))
  refine ogoW (fun t k => XS.iloadN X20.here hx rfl (hb hby at_177) rfl k) ?_
  show OwnEndsW _ _ _ _ _ _ _ (T20.setTop (mkF m 178 #[.val (.int p0), .val (.int p1), .val (.int (0 : Int32)), .val (.int (p1.toInt8.toInt32)), .val (.int (((p1.toUInt32 >>> ((8 : Int32) &&& 31).toUInt32).toInt32).toInt8.toInt32)), .val (.int (((p1.toUInt32 >>> ((16 : Int32) &&& 31).toUInt32).toInt32).toInt8.toInt32)), .val (.int (((p1.toUInt32 >>> ((24 : Int32) &&& 31).toUInt32).toInt32).toInt8.toInt32)), .val (.ref b2), .val (.ref r4), .val (.ref r10), .unset] [(.int (0 : Int32))]))
  refine ogoW (fun t k => XS.ifYes X20.here hx rfl (pc0 := 178) (pc' := 189) rfl (hb hby at_178) rfl ((if0 _ _).trans (flt (by decide : ¬ ((0 : Int32) < (0 : Int32)))).2.2.2) (by decide) (by decide) k) ?_
  show OwnEndsW _ _ _ _ _ _ _ (T20.setTop (mkF m 189 #[.val (.int p0), .val (.int p1), .val (.int (0 : Int32)), .val (.int (p1.toInt8.toInt32)), .val (.int (((p1.toUInt32 >>> ((8 : Int32) &&& 31).toUInt32).toInt32).toInt8.toInt32)), .val (.int (((p1.toUInt32 >>> ((16 : Int32) &&& 31).toUInt32).toInt32).toInt8.toInt32)), .val (.int (((p1.toUInt32 >>> ((24 : Int32) &&& 31).toUInt32).toInt32).toInt8.toInt32)), .val (.ref b2), .val (.ref r4), .val (.ref r10), .unset] []))
  refine ogoW (fun t k => XS.iloadN X20.here hx rfl (hb hby at_189) rfl k) ?_
  show OwnEndsW _ _ _ _ _ _ _ (T20.setTop (mkF m 190 #[.val (.int p0), .val (.int p1), .val (.int (0 : Int32)), .val (.int (p1.toInt8.toInt32)), .val (.int (((p1.toUInt32 >>> ((8 : Int32) &&& 31).toUInt32).toInt32).toInt8.toInt32)), .val (.int (((p1.toUInt32 >>> ((16 : Int32) &&& 31).toUInt32).toInt32).toInt8.toInt32)), .val (.int (((p1.toUInt32 >>> ((24 : Int32) &&& 31).toUInt32).toInt32).toInt8.toInt32)), .val (.ref b2), .val (.ref r4), .val (.ref r10), .unset] [(.int (0 : Int32))]))
  refine ogoW (fun t k => XS.iconst X20.here hx rfl (hb hby at_190) k) ?_
  show OwnEndsW _ _ _ _ _ _ _ (T20.setTop (mkF m 191 #[.val (.int p0), .val (.int p1), .val (.int (0 : Int32)), .val (.int (p1.toInt8.toInt32)), .val (.int (((p1.toUInt32 >>> ((8 : Int32) &&& 31).toUInt32).toInt32).toInt8.toInt32)), .val (.int (((p1.toUInt32 >>> ((16 : Int32) &&& 31).toUInt32).toInt32).toInt8.toInt32)), .val (.int (((p1.toUInt32 >>> ((24 : Int32) &&& 31).toUInt32).toInt32).toInt8.toInt32)), .val (.ref b2), .val (.ref r4), .val (.ref r10), .unset] [(.int (1 : Int32)), (.int (0 : Int32))]))
  refine ogoW (fun t k => XS.icmpYes X20.here hx rfl (pc0 := 191) (pc' := 203) rfl (hb hby at_191) rfl (flt (by decide : ¬ ((1 : Int32) < (0 : Int32)))).2.2.2 (by decide) (by decide) k) ?_
  show OwnEndsW _ _ _ _ _ _ _ (T20.setTop (mkF m 203 #[.val (.int p0), .val (.int p1), .val (.int (0 : Int32)), .val (.int (p1.toInt8.toInt32)), .val (.int (((p1.toUInt32 >>> ((8 : Int32) &&& 31).toUInt32).toInt32).toInt8.toInt32)), .val (.int (((p1.toUInt32 >>> ((16 : Int32) &&& 31).toUInt32).toInt32).toInt8.toInt32)), .val (.int (((p1.toUInt32 >>> ((24 : Int32) &&& 31).toUInt32).toInt32).toInt8.toInt32)), .val (.ref b2), .val (.ref r4), .val (.ref r10), .unset] []))
  refine ogoW (fun t k => XS.iloadN X20.here hx rfl (hb hby at_203) rfl k) ?_
  show OwnEndsW _ _ _ _ _ _ _ (T20.setTop (mkF m 204 #[.val (.int p0), .val (.int p1), .val (.int (0 : Int32)), .val (.int (p1.toInt8.toInt32)), .val (.int (((p1.toUInt32 >>> ((8 : Int32) &&& 31).toUInt32).toInt32).toInt8.toInt32)), .val (.int (((p1.toUInt32 >>> ((16 : Int32) &&& 31).toUInt32).toInt32).toInt8.toInt32)), .val (.int (((p1.toUInt32 >>> ((24 : Int32) &&& 31).toUInt32).toInt32).toInt8.toInt32)), .val (.ref b2), .val (.ref r4), .val (.ref r10), .unset] [(.int (0 : Int32))]))
  refine ogoW (fun t k => XS.iconst X20.here hx rfl (hb hby at_204) k) ?_
  show OwnEndsW _ _ _ _ _ _ _ (T20.setTop (mkF m 205 #[.val (.int p0), .val (.int p1), .val (.int (0 : Int32)), .val (.int (p1.toInt8.toInt32)), .val (.int (((p1.toUInt32 >>> ((8 : Int32) &&& 31).toUInt32).toInt32).toInt8.toInt32)), .val (.int (((p1.toUInt32 >>> ((16 : Int32) &&& 31).toUInt32).toInt32).toInt8.toInt32)), .val (.int (((p1.toUInt32 >>> ((24 : Int32) &&& 31).toUInt32).toInt32).toInt8.toInt32)), .val (.ref b2), .val (.ref r4), .val (.ref r10), .unset] [(.int (2 : Int32)), (.int (0 : Int32))]))
  refine ogoW (fun t k => XS.icmpYes X20.here hx rfl (pc0 := 205) (pc' := 217) rfl (hb hby at_205) rfl (flt (by decide : ¬ ((2 : Int32) < (0 : Int32)))).2.2.2 (by decide) (by decide) k) ?_
  show OwnEndsW _ _ _ _ _ _ _ (T20.setTop (mkF m 217 #[.val (.int p0), .val (.int p1), .val (.int (0 : Int32)), .val (.int (p1.toInt8.toInt32)), .val (.int (((p1.toUInt32 >>> ((8 : Int32) &&& 31).toUInt32).toInt32).toInt8.toInt32)), .val (.int (((p1.toUInt32 >>> ((16 : Int32) &&& 31).toUInt32).toInt32).toInt8.toInt32)), .val (.int (((p1.toUInt32 >>> ((24 : Int32) &&& 31).toUInt32).toInt32).toInt8.toInt32)), .val (.ref b2), .val (.ref r4), .val (.ref r10), .unset] []))
  refine ogoW (fun t k => XS.iloadN X20.here hx rfl (hb hby at_217) rfl k) ?_
  show OwnEndsW _ _ _ _ _ _ _ (T20.setTop (mkF m 218 #[.val (.int p0), .val (.int p1), .val (.int (0 : Int32)), .val (.int (p1.toInt8.toInt32)), .val (.int (((p1.toUInt32 >>> ((8 : Int32) &&& 31).toUInt32).toInt32).toInt8.toInt32)), .val (.int (((p1.toUInt32 >>> ((16 : Int32) &&& 31).toUInt32).toInt32).toInt8.toInt32)), .val (.int (((p1.toUInt32 >>> ((24 : Int32) &&& 31).toUInt32).toInt32).toInt8.toInt32)), .val (.ref b2), .val (.ref r4), .val (.ref r10), .unset] [(.int (0 : Int32))]))
  refine ogoW (fun t k => XS.iconst X20.here hx rfl (hb hby at_218) k) ?_
  show OwnEndsW _ _ _ _ _ _ _ (T20.setTop (mkF m 219 #[.val (.int p0), .val (.int p1), .val (.int (0 : Int32)), .val (.int (p1.toInt8.toInt32)), .val (.int (((p1.toUInt32 >>> ((8 : Int32) &&& 31).toUInt32).toInt32).toInt8.toInt32)), .val (.int (((p1.toUInt32 >>> ((16 : Int32) &&& 31).toUInt32).toInt32).toInt8.toInt32)), .val (.int (((p1.toUInt32 >>> ((24 : Int32) &&& 31).toUInt32).toInt32).toInt8.toInt32)), .val (.ref b2), .val (.ref r4), .val (.ref r10), .unset] [(.int (3 : Int32)), (.int (0 : Int32))]))
  refine ogoW (fun t k => XS.icmpYes X20.here hx rfl (pc0 := 219) (pc' := 231) rfl (hb hby at_219) rfl (flt (by decide : ¬ ((3 : Int32) < (0 : Int32)))).2.2.2 (by decide) (by decide) k) ?_
  show OwnEndsW _ _ _ _ _ _ _ (T20.setTop (mkF m 231 #[.val (.int p0), .val (.int p1), .val (.int (0 : Int32)), .val (.int (p1.toInt8.toInt32)), .val (.int (((p1.toUInt32 >>> ((8 : Int32) &&& 31).toUInt32).toInt32).toInt8.toInt32)), .val (.int (((p1.toUInt32 >>> ((16 : Int32) &&& 31).toUInt32).toInt32).toInt8.toInt32)), .val (.int (((p1.toUInt32 >>> ((24 : Int32) &&& 31).toUInt32).toInt32).toInt8.toInt32)), .val (.ref b2), .val (.ref r4), .val (.ref r10), .unset] []))
  refine ogoW (fun t k => XS.aload X20.here hx rfl (hb hby at_231) rfl rfl k) ?_
  show OwnEndsW _ _ _ _ _ _ _ (T20.setTop (mkF m 233 #[.val (.int p0), .val (.int p1), .val (.int (0 : Int32)), .val (.int (p1.toInt8.toInt32)), .val (.int (((p1.toUInt32 >>> ((8 : Int32) &&& 31).toUInt32).toInt32).toInt8.toInt32)), .val (.int (((p1.toUInt32 >>> ((16 : Int32) &&& 31).toUInt32).toInt32).toInt8.toInt32)), .val (.int (((p1.toUInt32 >>> ((24 : Int32) &&& 31).toUInt32).toInt32).toInt8.toInt32)), .val (.ref b2), .val (.ref r4), .val (.ref r10), .unset] [(.ref r4)]))
  obtain ⟨cq21, kq21, q21a, q21b, q21c⟩ := isOf hZ e20 f13
  obtain ⟨v21, _, ⟨T21, L21, k21, n21⟩, -, X21, ⟨Lc21, hQ21, l21, y21, z21⟩, st21⟩ := X20.virtualBack hx (y := (⟨"com/example/once_guard/onceguard/ClaimResult", "payloadDigest", "()[B"⟩ : MethodName)) (z := (⟨"com/example/once_guard/onceguard/ClaimResult", "payloadDigest", "()[B"⟩ : MethodName)) hown (mvT hZ (hw _ (List.mem_of_getElem? (i := 51) rfl))) (mvT hZ (hw _ (List.mem_of_getElem? (i := 52) rfl))) (notFace_of_selects (args := #[]) (mvT hZ (hw _ (List.mem_of_getElem? (i := 54) rfl)))) (mvT hZ (hw _ (List.mem_of_getElem? (i := 54) rfl))) (mvT hZ (hw _ (List.mem_of_getElem? (i := 53) rfl))) (by decide) (backOf (W := 0) (rm4 l Z a0 hw [] r4 x4 (0 : Int32) [] w_IN_PROGRESS w_CLAIMED T10.heap n0 Z18 OLD18 S_CLAIMED f14 f15 f16 f17 (by decide) (Fld.ne F_ordinal_IN_PROGRESS F_ordinal_CLAIMED (by simp))) hZ (hw _ (List.mem_of_getElem? (i := 55) rfl)) (hw _ (List.mem_of_getElem? (i := 4) rfl)) (by decide) (by decide)) q21a q21c (g := (mkF m 233 #[.val (.int p0), .val (.int p1), .val (.int (0 : Int32)), .val (.int (p1.toInt8.toInt32)), .val (.int (((p1.toUInt32 >>> ((8 : Int32) &&& 31).toUInt32).toInt32).toInt8.toInt32)), .val (.int (((p1.toUInt32 >>> ((16 : Int32) &&& 31).toUInt32).toInt32).toInt8.toInt32)), .val (.int (((p1.toUInt32 >>> ((24 : Int32) &&& 31).toUInt32).toInt32).toInt8.toInt32)), .val (.ref b2), .val (.ref r4), .val (.ref r10), .unset] [(.ref r4)])) rfl (by rw [hml]; rfl) (Steps.refl _) (argsL := []) (rest := []) (lenOf pd____B rfl) rfl (by show 2 * 0 + _ ≤ _; exact Nat.le_of_eq rfl) (hb hby at_233) (fun _ _ => ⟨rfl, e20, (by decide : 6 + 1 ≤ _), (by decide : 136 + 4 ≤ _)⟩)
  dsimp only [Pt.U, Pt.locs, Pt.cells, Pt.slots] at X21 l21 y21 z21 st21 hQ21
  subst l21 y21 z21
  obtain ⟨r21, rfl, Sq21, N21q, Kq21, Vq21, Eq21⟩ := hQ21
  have N21 := Fr.app N20 N21q
  have ne_b2_r21 : b2 ≠ r21 := Nat.ne_of_lt (Nat.lt_of_lt_of_le (f11).lt Sq21)
  have ne_r4_r21 : r4 ≠ r21 := Nat.ne_of_lt (Nat.lt_of_lt_of_le (f13).lt Sq21)
  have ne_x4_r21 : x4 ≠ r21 := Nat.ne_of_lt (Nat.lt_of_lt_of_le (f16).lt Sq21)
  have ne_r10_r21 : r10 ≠ r21 := Nat.ne_of_lt (Nat.lt_of_lt_of_le (Vq10).lt Sq21)
  have q_r21 : n0 ≤ r21 := Nat.le_trans Z18 Sq21
  have sz_r21 : h0.size ≤ r21 := Nat.le_trans K18.1 Sq21
  have f22 := f11.keep Kq21 nin0
  have f23 := f12.keep Kq21
  have f24 := f13.keep Kq21
  have f25 := f14.keep Kq21 nin0
  have f26 := f15.keep Kq21 nin0
  have f27 := f16.keep Kq21 nin0
  have f28 := f17.keep Kq21
  have f29 := Vq10.keep Kq21 nin0
  have f30 := Eq10.keep Kq21
  have OLD31 := OLD18.keep Kq21 all0
  have K31 := K18.trans Kq21 all0
  have Z31 := Nat.le_trans Z18 Kq21.1
  have hk32 := Nat.le_trans hk19 Kq21.1
  refine ogoW (fun t k => st21.trans k) ?_
  show OwnEndsW _ _ _ _ _ _ _ (T21.setTop (mkF m 236 #[.val (.int p0), .val (.int p1), .val (.int (0 : Int32)), .val (.int (p1.toInt8.toInt32)), .val (.int (((p1.toUInt32 >>> ((8 : Int32) &&& 31).toUInt32).toInt32).toInt8.toInt32)), .val (.int (((p1.toUInt32 >>> ((16 : Int32) &&& 31).toUInt32).toInt32).toInt8.toInt32)), .val (.int (((p1.toUInt32 >>> ((24 : Int32) &&& 31).toUInt32).toInt32).toInt8.toInt32)), .val (.ref b2), .val (.ref r4), .val (.ref r10), .unset] [(.ref r21)]))
  refine ogoW (fun t k => XS.astore X21.here hx rfl (hb hby at_236) rfl rfl (l' := #[.val (.int p0), .val (.int p1), .val (.int (0 : Int32)), .val (.int (p1.toInt8.toInt32)), .val (.int (((p1.toUInt32 >>> ((8 : Int32) &&& 31).toUInt32).toInt32).toInt8.toInt32)), .val (.int (((p1.toUInt32 >>> ((16 : Int32) &&& 31).toUInt32).toInt32).toInt8.toInt32)), .val (.int (((p1.toUInt32 >>> ((24 : Int32) &&& 31).toUInt32).toInt32).toInt8.toInt32)), .val (.ref b2), .val (.ref r4), .val (.ref r10), .val (.ref r21)]) rfl k) ?_
  show OwnEndsW _ _ _ _ _ _ _ (T21.setTop (mkF m 238 #[.val (.int p0), .val (.int p1), .val (.int (0 : Int32)), .val (.int (p1.toInt8.toInt32)), .val (.int (((p1.toUInt32 >>> ((8 : Int32) &&& 31).toUInt32).toInt32).toInt8.toInt32)), .val (.int (((p1.toUInt32 >>> ((16 : Int32) &&& 31).toUInt32).toInt32).toInt8.toInt32)), .val (.int (((p1.toUInt32 >>> ((24 : Int32) &&& 31).toUInt32).toInt32).toInt8.toInt32)), .val (.ref b2), .val (.ref r4), .val (.ref r10), .val (.ref r21)] []))
  refine ogoW (fun t k => XS.aload X21.here hx rfl (hb hby at_238) rfl rfl k) ?_
  show OwnEndsW _ _ _ _ _ _ _ (T21.setTop (mkF m 240 #[.val (.int p0), .val (.int p1), .val (.int (0 : Int32)), .val (.int (p1.toInt8.toInt32)), .val (.int (((p1.toUInt32 >>> ((8 : Int32) &&& 31).toUInt32).toInt32).toInt8.toInt32)), .val (.int (((p1.toUInt32 >>> ((16 : Int32) &&& 31).toUInt32).toInt32).toInt8.toInt32)), .val (.int (((p1.toUInt32 >>> ((24 : Int32) &&& 31).toUInt32).toInt32).toInt8.toInt32)), .val (.ref b2), .val (.ref r4), .val (.ref r10), .val (.ref r21)] [(.ref r21)]))
  refine ogoW (fun t k => XS.iloadN X21.here hx rfl (hb hby at_240) rfl k) ?_
  show OwnEndsW _ _ _ _ _ _ _ (T21.setTop (mkF m 241 #[.val (.int p0), .val (.int p1), .val (.int (0 : Int32)), .val (.int (p1.toInt8.toInt32)), .val (.int (((p1.toUInt32 >>> ((8 : Int32) &&& 31).toUInt32).toInt32).toInt8.toInt32)), .val (.int (((p1.toUInt32 >>> ((16 : Int32) &&& 31).toUInt32).toInt32).toInt8.toInt32)), .val (.int (((p1.toUInt32 >>> ((24 : Int32) &&& 31).toUInt32).toInt32).toInt8.toInt32)), .val (.ref b2), .val (.ref r4), .val (.ref r10), .val (.ref r21)] [(.int (0 : Int32)), (.ref r21)]))
  refine ogoW (fun t k => XS.iloadN X21.here hx rfl (hb hby at_241) rfl k) ?_
  show OwnEndsW _ _ _ _ _ _ _ (T21.setTop (mkF m 242 #[.val (.int p0), .val (.int p1), .val (.int (0 : Int32)), .val (.int (p1.toInt8.toInt32)), .val (.int (((p1.toUInt32 >>> ((8 : Int32) &&& 31).toUInt32).toInt32).toInt8.toInt32)), .val (.int (((p1.toUInt32 >>> ((16 : Int32) &&& 31).toUInt32).toInt32).toInt8.toInt32)), .val (.int (((p1.toUInt32 >>> ((24 : Int32) &&& 31).toUInt32).toInt32).toInt8.toInt32)), .val (.ref b2), .val (.ref r4), .val (.ref r10), .val (.ref r21)] [(.int (p1.toInt8.toInt32)), (.int (0 : Int32)), (.ref r21)]))
  refine ogoW (fun t k => XS.iload X21.here hx rfl (hb hby at_242) rfl k) ?_
  show OwnEndsW _ _ _ _ _ _ _ (T21.setTop (mkF m 244 #[.val (.int p0), .val (.int p1), .val (.int (0 : Int32)), .val (.int (p1.toInt8.toInt32)), .val (.int (((p1.toUInt32 >>> ((8 : Int32) &&& 31).toUInt32).toInt32).toInt8.toInt32)), .val (.int (((p1.toUInt32 >>> ((16 : Int32) &&& 31).toUInt32).toInt32).toInt8.toInt32)), .val (.int (((p1.toUInt32 >>> ((24 : Int32) &&& 31).toUInt32).toInt32).toInt8.toInt32)), .val (.ref b2), .val (.ref r4), .val (.ref r10), .val (.ref r21)] [(.int (((p1.toUInt32 >>> ((8 : Int32) &&& 31).toUInt32).toInt32).toInt8.toInt32)), (.int (p1.toInt8.toInt32)), (.int (0 : Int32)), (.ref r21)]))
  refine ogoW (fun t k => XS.iload X21.here hx rfl (hb hby at_244) rfl k) ?_
  show OwnEndsW _ _ _ _ _ _ _ (T21.setTop (mkF m 246 #[.val (.int p0), .val (.int p1), .val (.int (0 : Int32)), .val (.int (p1.toInt8.toInt32)), .val (.int (((p1.toUInt32 >>> ((8 : Int32) &&& 31).toUInt32).toInt32).toInt8.toInt32)), .val (.int (((p1.toUInt32 >>> ((16 : Int32) &&& 31).toUInt32).toInt32).toInt8.toInt32)), .val (.int (((p1.toUInt32 >>> ((24 : Int32) &&& 31).toUInt32).toInt32).toInt8.toInt32)), .val (.ref b2), .val (.ref r4), .val (.ref r10), .val (.ref r21)] [(.int (((p1.toUInt32 >>> ((16 : Int32) &&& 31).toUInt32).toInt32).toInt8.toInt32)), (.int (((p1.toUInt32 >>> ((8 : Int32) &&& 31).toUInt32).toInt32).toInt8.toInt32)), (.int (p1.toInt8.toInt32)), (.int (0 : Int32)), (.ref r21)]))
  refine ogoW (fun t k => XS.iload X21.here hx rfl (hb hby at_246) rfl k) ?_
  show OwnEndsW _ _ _ _ _ _ _ (T21.setTop (mkF m 248 #[.val (.int p0), .val (.int p1), .val (.int (0 : Int32)), .val (.int (p1.toInt8.toInt32)), .val (.int (((p1.toUInt32 >>> ((8 : Int32) &&& 31).toUInt32).toInt32).toInt8.toInt32)), .val (.int (((p1.toUInt32 >>> ((16 : Int32) &&& 31).toUInt32).toInt32).toInt8.toInt32)), .val (.int (((p1.toUInt32 >>> ((24 : Int32) &&& 31).toUInt32).toInt32).toInt8.toInt32)), .val (.ref b2), .val (.ref r4), .val (.ref r10), .val (.ref r21)] [(.int (((p1.toUInt32 >>> ((24 : Int32) &&& 31).toUInt32).toInt32).toInt8.toInt32)), (.int (((p1.toUInt32 >>> ((16 : Int32) &&& 31).toUInt32).toInt32).toInt8.toInt32)), (.int (((p1.toUInt32 >>> ((8 : Int32) &&& 31).toUInt32).toInt32).toInt8.toInt32)), (.int (p1.toInt8.toInt32)), (.int (0 : Int32)), (.ref r21)]))
  obtain ⟨v33, _, ⟨T33, L33, k33, n33⟩, -, X33, ⟨Lc33, hQ33, l33, y33, z33⟩, st33⟩ := Jvm.LawKit.callS X21 hx (y := (⟨"com/example/once_guard/onceguard/ClaimResultInProgressPinLaw", "same", "([BIBBBB)Z"⟩ : MethodName)) hown (mvT hZ (hw _ (List.mem_of_getElem? (i := 58) rfl))) (mvT hZ (hw _ (List.mem_of_getElem? (i := 59) rfl))) (mvT hZ (hw _ (List.mem_of_getElem? (i := 60) rfl))) (mvT hZ (hw _ (List.mem_of_getElem? (i := 61) rfl))) (by decide) (backOf (W := 0) (rm60 l Z a0 hw [] r21 (p1.toInt8.toInt32) (((p1.toUInt32 >>> ((8 : Int32) &&& 31).toUInt32).toInt32).toInt8.toInt32) (((p1.toUInt32 >>> ((16 : Int32) &&& 31).toUInt32).toInt32).toInt8.toInt32) (((p1.toUInt32 >>> ((24 : Int32) &&& 31).toUInt32).toInt32).toInt8.toInt32) T21.heap n0 Z31 Vq21) hZ (hw _ (List.mem_of_getElem? (i := 61) rfl)) (hw _ (List.mem_of_getElem? (i := 60) rfl)) (by decide) (by decide)) (g := (mkF m 248 #[.val (.int p0), .val (.int p1), .val (.int (0 : Int32)), .val (.int (p1.toInt8.toInt32)), .val (.int (((p1.toUInt32 >>> ((8 : Int32) &&& 31).toUInt32).toInt32).toInt8.toInt32)), .val (.int (((p1.toUInt32 >>> ((16 : Int32) &&& 31).toUInt32).toInt32).toInt8.toInt32)), .val (.int (((p1.toUInt32 >>> ((24 : Int32) &&& 31).toUInt32).toInt32).toInt8.toInt32)), .val (.ref b2), .val (.ref r4), .val (.ref r10), .val (.ref r21)] [(.int (((p1.toUInt32 >>> ((24 : Int32) &&& 31).toUInt32).toInt32).toInt8.toInt32)), (.int (((p1.toUInt32 >>> ((16 : Int32) &&& 31).toUInt32).toInt32).toInt8.toInt32)), (.int (((p1.toUInt32 >>> ((8 : Int32) &&& 31).toUInt32).toInt32).toInt8.toInt32)), (.int (p1.toInt8.toInt32)), (.int (0 : Int32)), (.ref r21)])) rfl (by rw [hml]; rfl) (argsL := [(.ref r21), (.int (0 : Int32)), (.int (p1.toInt8.toInt32)), (.int (((p1.toUInt32 >>> ((8 : Int32) &&& 31).toUInt32).toInt32).toInt8.toInt32)), (.int (((p1.toUInt32 >>> ((16 : Int32) &&& 31).toUInt32).toInt32).toInt8.toInt32)), (.int (((p1.toUInt32 >>> ((24 : Int32) &&& 31).toUInt32).toInt32).toInt8.toInt32))]) (rest := []) (lenOf pd___BIBBBB_Z rfl) rfl (by show 2 * 0 + _ ≤ _; exact Nat.le_of_eq rfl) (hb hby at_248) (fun _ _ => ⟨rfl, rfl, (by decide : 7 + 0 ≤ _), (by decide : 140 + 0 ≤ _)⟩)
  dsimp only [Pt.U, Pt.locs, Pt.cells, Pt.slots] at X33 l33 y33 z33 st33 hQ33
  subst l33 y33 z33
  obtain ⟨rfl, N33q, e33⟩ := hQ33
  have N33 := Fr.app N21 N33q
  refine ogoW (fun t k => st33 t k) ?_
  show OwnEndsW _ _ _ _ _ _ _ (T33.setTop (mkF m 251 #[.val (.int p0), .val (.int p1), .val (.int (0 : Int32)), .val (.int (p1.toInt8.toInt32)), .val (.int (((p1.toUInt32 >>> ((8 : Int32) &&& 31).toUInt32).toInt32).toInt8.toInt32)), .val (.int (((p1.toUInt32 >>> ((16 : Int32) &&& 31).toUInt32).toInt32).toInt8.toInt32)), .val (.int (((p1.toUInt32 >>> ((24 : Int32) &&& 31).toUInt32).toInt32).toInt8.toInt32)), .val (.ref b2), .val (.ref r4), .val (.ref r10), .val (.ref r21)] [(.int (1 : Int32))]))
  refine endZW X33 hS4 (by rw [e33]; exact hk32) hx hlk hret rfl (hb hby at_251) (by decide) (by decide) ?_
  show Q0 Z p0 p1 w_IN_PROGRESS w_CLAIMED h0 n0 _ T33.heap _
  rw [e33]
  exact ⟨rfl, N33⟩
set_option maxRecDepth 65536 in
set_option maxHeartbeats 40000000 in
theorem tn0_k1 {p : Program} {l : Launch} {e : Env} {s : State} {m : MethodId} {args : Array Value} {below : List Frame} {meth : Method} {c : Code} {locs : List Loc} (Z : State) (a0 : Array Value) (hw : ∀ d ∈ tables_1, d.before a0 Z = true) (p0 p1 : Int32) (w_IN_PROGRESS w_CLAIMED : Addr) (h0 : Heap) (n0 : Nat) (OLD : Old Z n0 h0) (S_IN_PROGRESS : Sta Z Z.heap "com/example/once_guard/onceguard/ClaimResult$State" "IN_PROGRESS" "Lcom/example/once_guard/onceguard/ClaimResult$State;" (.ref w_IN_PROGRESS)) (E_IN_PROGRESS : Exa Z Z.heap w_IN_PROGRESS "com/example/once_guard/onceguard/ClaimResult$State") (F_ordinal_IN_PROGRESS : Fld Z Z.heap w_IN_PROGRESS "java/lang/Enum" "ordinal" "I" (.int (1 : Int32))) (S_CLAIMED : Sta Z Z.heap "com/example/once_guard/onceguard/ClaimResult$State" "CLAIMED" "Lcom/example/once_guard/onceguard/ClaimResult$State;" (.ref w_CLAIMED)) (E_CLAIMED : Exa Z Z.heap w_CLAIMED "com/example/once_guard/onceguard/ClaimResult$State") (F_ordinal_CLAIMED : Fld Z Z.heap w_CLAIMED "java/lang/Enum" "ordinal" "I" (.int (0 : Int32))) (s₁ : State) (hx : p.tables.exec = Jvm.exec) (hZ : Z.Warmed39 (s.setVm s.vm).vm) (hby : c.code = code) (hml : c.maxLocals = 11) (hown : (s.setVm s.vm).vm.findClass "com/example/once_guard/onceguard/ClaimResultInProgressPinLaw" = some m.cls) (hnm : meth.name = "law") (hlk : meth.locks = false) (hret : meth.sig.returnType = some .boolean) (X0 : Stand p l e room_1 (s.setVm s.vm) m args below meth c s₁ locs 0 0) (e0 : s₁.heap = h0) (N0 : Fr n0 locs) (cKC34 : Keep h0 h0 []) (Z0 : n0 ≤ h0.size) (hS0 : s.Since s.vm 0) :
    OwnEndsW p.tables e below s 24 1152 (Q0 Z p0 p1 w_IN_PROGRESS w_CLAIMED h0 n0) (s₁.setTop (mkF m 6 #[.val (.int p0), .val (.int p1), .unset, .unset, .unset, .unset, .unset, .unset, .unset, .unset, .unset] [(.int (1 : Int32))])) := by
  show OwnEndsW _ _ _ _ _ _ _ (s₁.setTop (mkF m 6 #[.val (.int p0), .val (.int p1), .unset, .unset, .unset, .unset, .unset, .unset, .unset, .unset, .unset] [(.int (1 : Int32))]))
  refine ogoW (fun t k => XS.istoreN X0.here hx rfl (hb hby at_6) rfl (l' := #[.val (.int p0), .val (.int p1), .val (.int (1 : Int32)), .unset, .unset, .unset, .unset, .unset, .unset, .unset, .unset]) rfl k) ?_
  show OwnEndsW _ _ _ _ _ _ _ (s₁.setTop (mkF m 7 #[.val (.int p0), .val (.int p1), .val (.int (1 : Int32)), .unset, .unset, .unset, .unset, .unset, .unset, .unset, .unset] []))
  refine ogoW (fun t k => XS.iloadN X0.here hx rfl (hb hby at_7) rfl k) ?_
  show OwnEndsW _ _ _ _ _ _ _ (s₁.setTop (mkF m 8 #[.val (.int p0), .val (.int p1), .val (.int (1 : Int32)), .unset, .unset, .unset, .unset, .unset, .unset, .unset, .unset] [(.int p1)]))
  refine ogoW (fun t k => XS.i2b X0.here hx rfl (hb hby at_8) rfl k) ?_
  show OwnEndsW _ _ _ _ _ _ _ (s₁.setTop (mkF m 9 #[.val (.int p0), .val (.int p1), .val (.int (1 : Int32)), .unset, .unset, .unset, .unset, .unset, .unset, .unset, .unset] [(.int (p1.toInt8.toInt32))]))
  refine ogoW (fun t k => XS.istoreN X0.here hx rfl (hb hby at_9) rfl (l' := #[.val (.int p0), .val (.int p1), .val (.int (1 : Int32)), .val (.int (p1.toInt8.toInt32)), .unset, .unset, .unset, .unset, .unset, .unset, .unset]) rfl k) ?_
  show OwnEndsW _ _ _ _ _ _ _ (s₁.setTop (mkF m 10 #[.val (.int p0), .val (.int p1), .val (.int (1 : Int32)), .val (.int (p1.toInt8.toInt32)), .unset, .unset, .unset, .unset, .unset, .unset, .unset] []))
  refine ogoW (fun t k => XS.iloadN X0.here hx rfl (hb hby at_10) rfl k) ?_
  show OwnEndsW _ _ _ _ _ _ _ (s₁.setTop (mkF m 11 #[.val (.int p0), .val (.int p1), .val (.int (1 : Int32)), .val (.int (p1.toInt8.toInt32)), .unset, .unset, .unset, .unset, .unset, .unset, .unset] [(.int p1)]))
  refine ogoW (fun t k => XS.bipush X0.here hx rfl (hb hby at_11) k) ?_
  show OwnEndsW _ _ _ _ _ _ _ (s₁.setTop (mkF m 13 #[.val (.int p0), .val (.int p1), .val (.int (1 : Int32)), .val (.int (p1.toInt8.toInt32)), .unset, .unset, .unset, .unset, .unset, .unset, .unset] [(.int (8 : Int32)), (.int p1)]))
  refine ogoW (fun t k => XS.iushr X0.here hx rfl (hb hby at_13) rfl k) ?_
  show OwnEndsW _ _ _ _ _ _ _ (s₁.setTop (mkF m 14 #[.val (.int p0), .val (.int p1), .val (.int (1 : Int32)), .val (.int (p1.toInt8.toInt32)), .unset, .unset, .unset, .unset, .unset, .unset, .unset] [(.int ((p1.toUInt32 >>> ((8 : Int32) &&& 31).toUInt32).toInt32))]))
  refine ogoW (fun t k => XS.i2b X0.here hx rfl (hb hby at_14) rfl k) ?_
  show OwnEndsW _ _ _ _ _ _ _ (s₁.setTop (mkF m 15 #[.val (.int p0), .val (.int p1), .val (.int (1 : Int32)), .val (.int (p1.toInt8.toInt32)), .unset, .unset, .unset, .unset, .unset, .unset, .unset] [(.int (((p1.toUInt32 >>> ((8 : Int32) &&& 31).toUInt32).toInt32).toInt8.toInt32))]))
  refine ogoW (fun t k => XS.istore X0.here hx rfl (hb hby at_15) rfl (l' := #[.val (.int p0), .val (.int p1), .val (.int (1 : Int32)), .val (.int (p1.toInt8.toInt32)), .val (.int (((p1.toUInt32 >>> ((8 : Int32) &&& 31).toUInt32).toInt32).toInt8.toInt32)), .unset, .unset, .unset, .unset, .unset, .unset]) rfl k) ?_
  show OwnEndsW _ _ _ _ _ _ _ (s₁.setTop (mkF m 17 #[.val (.int p0), .val (.int p1), .val (.int (1 : Int32)), .val (.int (p1.toInt8.toInt32)), .val (.int (((p1.toUInt32 >>> ((8 : Int32) &&& 31).toUInt32).toInt32).toInt8.toInt32)), .unset, .unset, .unset, .unset, .unset, .unset] []))
  refine ogoW (fun t k => XS.iloadN X0.here hx rfl (hb hby at_17) rfl k) ?_
  show OwnEndsW _ _ _ _ _ _ _ (s₁.setTop (mkF m 18 #[.val (.int p0), .val (.int p1), .val (.int (1 : Int32)), .val (.int (p1.toInt8.toInt32)), .val (.int (((p1.toUInt32 >>> ((8 : Int32) &&& 31).toUInt32).toInt32).toInt8.toInt32)), .unset, .unset, .unset, .unset, .unset, .unset] [(.int p1)]))
  refine ogoW (fun t k => XS.bipush X0.here hx rfl (hb hby at_18) k) ?_
  show OwnEndsW _ _ _ _ _ _ _ (s₁.setTop (mkF m 20 #[.val (.int p0), .val (.int p1), .val (.int (1 : Int32)), .val (.int (p1.toInt8.toInt32)), .val (.int (((p1.toUInt32 >>> ((8 : Int32) &&& 31).toUInt32).toInt32).toInt8.toInt32)), .unset, .unset, .unset, .unset, .unset, .unset] [(.int (16 : Int32)), (.int p1)]))
  refine ogoW (fun t k => XS.iushr X0.here hx rfl (hb hby at_20) rfl k) ?_
  show OwnEndsW _ _ _ _ _ _ _ (s₁.setTop (mkF m 21 #[.val (.int p0), .val (.int p1), .val (.int (1 : Int32)), .val (.int (p1.toInt8.toInt32)), .val (.int (((p1.toUInt32 >>> ((8 : Int32) &&& 31).toUInt32).toInt32).toInt8.toInt32)), .unset, .unset, .unset, .unset, .unset, .unset] [(.int ((p1.toUInt32 >>> ((16 : Int32) &&& 31).toUInt32).toInt32))]))
  refine ogoW (fun t k => XS.i2b X0.here hx rfl (hb hby at_21) rfl k) ?_
  show OwnEndsW _ _ _ _ _ _ _ (s₁.setTop (mkF m 22 #[.val (.int p0), .val (.int p1), .val (.int (1 : Int32)), .val (.int (p1.toInt8.toInt32)), .val (.int (((p1.toUInt32 >>> ((8 : Int32) &&& 31).toUInt32).toInt32).toInt8.toInt32)), .unset, .unset, .unset, .unset, .unset, .unset] [(.int (((p1.toUInt32 >>> ((16 : Int32) &&& 31).toUInt32).toInt32).toInt8.toInt32))]))
  refine ogoW (fun t k => XS.istore X0.here hx rfl (hb hby at_22) rfl (l' := #[.val (.int p0), .val (.int p1), .val (.int (1 : Int32)), .val (.int (p1.toInt8.toInt32)), .val (.int (((p1.toUInt32 >>> ((8 : Int32) &&& 31).toUInt32).toInt32).toInt8.toInt32)), .val (.int (((p1.toUInt32 >>> ((16 : Int32) &&& 31).toUInt32).toInt32).toInt8.toInt32)), .unset, .unset, .unset, .unset, .unset]) rfl k) ?_
  show OwnEndsW _ _ _ _ _ _ _ (s₁.setTop (mkF m 24 #[.val (.int p0), .val (.int p1), .val (.int (1 : Int32)), .val (.int (p1.toInt8.toInt32)), .val (.int (((p1.toUInt32 >>> ((8 : Int32) &&& 31).toUInt32).toInt32).toInt8.toInt32)), .val (.int (((p1.toUInt32 >>> ((16 : Int32) &&& 31).toUInt32).toInt32).toInt8.toInt32)), .unset, .unset, .unset, .unset, .unset] []))
  refine ogoW (fun t k => XS.iloadN X0.here hx rfl (hb hby at_24) rfl k) ?_
  show OwnEndsW _ _ _ _ _ _ _ (s₁.setTop (mkF m 25 #[.val (.int p0), .val (.int p1), .val (.int (1 : Int32)), .val (.int (p1.toInt8.toInt32)), .val (.int (((p1.toUInt32 >>> ((8 : Int32) &&& 31).toUInt32).toInt32).toInt8.toInt32)), .val (.int (((p1.toUInt32 >>> ((16 : Int32) &&& 31).toUInt32).toInt32).toInt8.toInt32)), .unset, .unset, .unset, .unset, .unset] [(.int p1)]))
  refine ogoW (fun t k => XS.bipush X0.here hx rfl (hb hby at_25) k) ?_
  show OwnEndsW _ _ _ _ _ _ _ (s₁.setTop (mkF m 27 #[.val (.int p0), .val (.int p1), .val (.int (1 : Int32)), .val (.int (p1.toInt8.toInt32)), .val (.int (((p1.toUInt32 >>> ((8 : Int32) &&& 31).toUInt32).toInt32).toInt8.toInt32)), .val (.int (((p1.toUInt32 >>> ((16 : Int32) &&& 31).toUInt32).toInt32).toInt8.toInt32)), .unset, .unset, .unset, .unset, .unset] [(.int (24 : Int32)), (.int p1)]))
  refine ogoW (fun t k => XS.iushr X0.here hx rfl (hb hby at_27) rfl k) ?_
  show OwnEndsW _ _ _ _ _ _ _ (s₁.setTop (mkF m 28 #[.val (.int p0), .val (.int p1), .val (.int (1 : Int32)), .val (.int (p1.toInt8.toInt32)), .val (.int (((p1.toUInt32 >>> ((8 : Int32) &&& 31).toUInt32).toInt32).toInt8.toInt32)), .val (.int (((p1.toUInt32 >>> ((16 : Int32) &&& 31).toUInt32).toInt32).toInt8.toInt32)), .unset, .unset, .unset, .unset, .unset] [(.int ((p1.toUInt32 >>> ((24 : Int32) &&& 31).toUInt32).toInt32))]))
  refine ogoW (fun t k => XS.i2b X0.here hx rfl (hb hby at_28) rfl k) ?_
  show OwnEndsW _ _ _ _ _ _ _ (s₁.setTop (mkF m 29 #[.val (.int p0), .val (.int p1), .val (.int (1 : Int32)), .val (.int (p1.toInt8.toInt32)), .val (.int (((p1.toUInt32 >>> ((8 : Int32) &&& 31).toUInt32).toInt32).toInt8.toInt32)), .val (.int (((p1.toUInt32 >>> ((16 : Int32) &&& 31).toUInt32).toInt32).toInt8.toInt32)), .unset, .unset, .unset, .unset, .unset] [(.int (((p1.toUInt32 >>> ((24 : Int32) &&& 31).toUInt32).toInt32).toInt8.toInt32))]))
  refine ogoW (fun t k => XS.istore X0.here hx rfl (hb hby at_29) rfl (l' := #[.val (.int p0), .val (.int p1), .val (.int (1 : Int32)), .val (.int (p1.toInt8.toInt32)), .val (.int (((p1.toUInt32 >>> ((8 : Int32) &&& 31).toUInt32).toInt32).toInt8.toInt32)), .val (.int (((p1.toUInt32 >>> ((16 : Int32) &&& 31).toUInt32).toInt32).toInt8.toInt32)), .val (.int (((p1.toUInt32 >>> ((24 : Int32) &&& 31).toUInt32).toInt32).toInt8.toInt32)), .unset, .unset, .unset, .unset]) rfl k) ?_
  show OwnEndsW _ _ _ _ _ _ _ (s₁.setTop (mkF m 31 #[.val (.int p0), .val (.int p1), .val (.int (1 : Int32)), .val (.int (p1.toInt8.toInt32)), .val (.int (((p1.toUInt32 >>> ((8 : Int32) &&& 31).toUInt32).toInt32).toInt8.toInt32)), .val (.int (((p1.toUInt32 >>> ((16 : Int32) &&& 31).toUInt32).toInt32).toInt8.toInt32)), .val (.int (((p1.toUInt32 >>> ((24 : Int32) &&& 31).toUInt32).toInt32).toInt8.toInt32)), .unset, .unset, .unset, .unset] []))
  refine ogoW (fun t k => XS.iloadN X0.here hx rfl (hb hby at_31) rfl k) ?_
  show OwnEndsW _ _ _ _ _ _ _ (s₁.setTop (mkF m 32 #[.val (.int p0), .val (.int p1), .val (.int (1 : Int32)), .val (.int (p1.toInt8.toInt32)), .val (.int (((p1.toUInt32 >>> ((8 : Int32) &&& 31).toUInt32).toInt32).toInt8.toInt32)), .val (.int (((p1.toUInt32 >>> ((16 : Int32) &&& 31).toUInt32).toInt32).toInt8.toInt32)), .val (.int (((p1.toUInt32 >>> ((24 : Int32) &&& 31).toUInt32).toInt32).toInt8.toInt32)), .unset, .unset, .unset, .unset] [(.int (1 : Int32))]))
  obtain ⟨T35, h35, k35, X35, e35, E35, A35, B35, st35⟩ := newPE X0 hx hZ (hw _ (List.mem_of_getElem? (i := 1) rfl)) e0 (g := (mkF m 32 #[.val (.int p0), .val (.int p1), .val (.int (1 : Int32)), .val (.int (p1.toInt8.toInt32)), .val (.int (((p1.toUInt32 >>> ((8 : Int32) &&& 31).toUInt32).toInt32).toInt8.toInt32)), .val (.int (((p1.toUInt32 >>> ((16 : Int32) &&& 31).toUInt32).toInt32).toInt8.toInt32)), .val (.int (((p1.toUInt32 >>> ((24 : Int32) &&& 31).toUInt32).toInt32).toInt8.toInt32)), .unset, .unset, .unset, .unset] [(.int (1 : Int32))])) rfl (hb hby at_32) rfl (by decide) (cap := 1) (by decide) (by decide) (by decide) (by decide) (ad := "[B") (by decide)
  obtain ⟨b35, g35⟩ : ∃ z, z = h0.size := ⟨_, rfl⟩
  rw [← g35] at A35 B35 st35
  have q_b35 : n0 ≤ b35 := Nat.le_trans Z0 (Nat.le_of_eq g35.symm)
  have sz_b35 : h0.size ≤ b35 := Nat.le_trans cKC34.1 (Nat.le_of_eq g35.symm)
  have OLD36 := OLD.ext E35
  have K36 := cKC34.ext E35
  have Z36 := Nat.le_trans Z0 E35.1
  have V35 : Arv Z h35 b35 k35 .byte (1 : Int32) [(.int (0 : Int32))] (.int (0 : Int32)) := (Arv.new A35 (by decide)).pad (pad_rep [] (.int (0 : Int32)) 1)
  refine ogoW st35 ?_
  show OwnEndsW _ _ _ _ _ _ _ (T35.setTop (mkF m 34 #[.val (.int p0), .val (.int p1), .val (.int (1 : Int32)), .val (.int (p1.toInt8.toInt32)), .val (.int (((p1.toUInt32 >>> ((8 : Int32) &&& 31).toUInt32).toInt32).toInt8.toInt32)), .val (.int (((p1.toUInt32 >>> ((16 : Int32) &&& 31).toUInt32).toInt32).toInt8.toInt32)), .val (.int (((p1.toUInt32 >>> ((24 : Int32) &&& 31).toUInt32).toInt32).toInt8.toInt32)), .unset, .unset, .unset, .unset] [(.ref b35)]))
  refine ogoW (fun t k => XS.astore X35.here hx rfl (hb hby at_34) rfl rfl (l' := #[.val (.int p0), .val (.int p1), .val (.int (1 : Int32)), .val (.int (p1.toInt8.toInt32)), .val (.int (((p1.toUInt32 >>> ((8 : Int32) &&& 31).toUInt32).toInt32).toInt8.toInt32)), .val (.int (((p1.toUInt32 >>> ((16 : Int32) &&& 31).toUInt32).toInt32).toInt8.toInt32)), .val (.int (((p1.toUInt32 >>> ((24 : Int32) &&& 31).toUInt32).toInt32).toInt8.toInt32)), .val (.ref b35), .unset, .unset, .unset]) rfl k) ?_
  show OwnEndsW _ _ _ _ _ _ _ (T35.setTop (mkF m 36 #[.val (.int p0), .val (.int p1), .val (.int (1 : Int32)), .val (.int (p1.toInt8.toInt32)), .val (.int (((p1.toUInt32 >>> ((8 : Int32) &&& 31).toUInt32).toInt32).toInt8.toInt32)), .val (.int (((p1.toUInt32 >>> ((16 : Int32) &&& 31).toUInt32).toInt32).toInt8.toInt32)), .val (.int (((p1.toUInt32 >>> ((24 : Int32) &&& 31).toUInt32).toInt32).toInt8.toInt32)), .val (.ref b35), .unset, .unset, .unset] []))
  refine ogoW (fun t k => XS.iloadN X35.here hx rfl (hb hby at_36) rfl k) ?_
  show OwnEndsW _ _ _ _ _ _ _ (T35.setTop (mkF m 37 #[.val (.int p0), .val (.int p1), .val (.int (1 : Int32)), .val (.int (p1.toInt8.toInt32)), .val (.int (((p1.toUInt32 >>> ((8 : Int32) &&& 31).toUInt32).toInt32).toInt8.toInt32)), .val (.int (((p1.toUInt32 >>> ((16 : Int32) &&& 31).toUInt32).toInt32).toInt8.toInt32)), .val (.int (((p1.toUInt32 >>> ((24 : Int32) &&& 31).toUInt32).toInt32).toInt8.toInt32)), .val (.ref b35), .unset, .unset, .unset] [(.int (1 : Int32))]))
  refine ogoW (fun t k => XS.ifNo X35.here hx rfl (hb hby at_37) rfl ((if0 _ _).trans (tlt (by decide : (0 : Int32) < (1 : Int32))).2.2.2) k) ?_
  show OwnEndsW _ _ _ _ _ _ _ (T35.setTop (mkF m 40 #[.val (.int p0), .val (.int p1), .val (.int (1 : Int32)), .val (.int (p1.toInt8.toInt32)), .val (.int (((p1.toUInt32 >>> ((8 : Int32) &&& 31).toUInt32).toInt32).toInt8.toInt32)), .val (.int (((p1.toUInt32 >>> ((16 : Int32) &&& 31).toUInt32).toInt32).toInt8.toInt32)), .val (.int (((p1.toUInt32 >>> ((24 : Int32) &&& 31).toUInt32).toInt32).toInt8.toInt32)), .val (.ref b35), .unset, .unset, .unset] []))
  refine ogoW (fun t k => XS.aload X35.here hx rfl (hb hby at_40) rfl rfl k) ?_
  show OwnEndsW _ _ _ _ _ _ _ (T35.setTop (mkF m 42 #[.val (.int p0), .val (.int p1), .val (.int (1 : Int32)), .val (.int (p1.toInt8.toInt32)), .val (.int (((p1.toUInt32 >>> ((8 : Int32) &&& 31).toUInt32).toInt32).toInt8.toInt32)), .val (.int (((p1.toUInt32 >>> ((16 : Int32) &&& 31).toUInt32).toInt32).toInt8.toInt32)), .val (.int (((p1.toUInt32 >>> ((24 : Int32) &&& 31).toUInt32).toInt32).toInt8.toInt32)), .val (.ref b35), .unset, .unset, .unset] [(.ref b35)]))
  refine ogoW (fun t k => XS.iconst X35.here hx rfl (hb hby at_42) k) ?_
  show OwnEndsW _ _ _ _ _ _ _ (T35.setTop (mkF m 43 #[.val (.int p0), .val (.int p1), .val (.int (1 : Int32)), .val (.int (p1.toInt8.toInt32)), .val (.int (((p1.toUInt32 >>> ((8 : Int32) &&& 31).toUInt32).toInt32).toInt8.toInt32)), .val (.int (((p1.toUInt32 >>> ((16 : Int32) &&& 31).toUInt32).toInt32).toInt8.toInt32)), .val (.int (((p1.toUInt32 >>> ((24 : Int32) &&& 31).toUInt32).toInt32).toInt8.toInt32)), .val (.ref b35), .unset, .unset, .unset] [(.int (0 : Int32)), (.ref b35)]))
  refine ogoW (fun t k => XS.iloadN X35.here hx rfl (hb hby at_43) rfl k) ?_
  show OwnEndsW _ _ _ _ _ _ _ (T35.setTop (mkF m 44 #[.val (.int p0), .val (.int p1), .val (.int (1 : Int32)), .val (.int (p1.toInt8.toInt32)), .val (.int (((p1.toUInt32 >>> ((8 : Int32) &&& 31).toUInt32).toInt32).toInt8.toInt32)), .val (.int (((p1.toUInt32 >>> ((16 : Int32) &&& 31).toUInt32).toInt32).toInt8.toInt32)), .val (.int (((p1.toUInt32 >>> ((24 : Int32) &&& 31).toUInt32).toInt32).toInt8.toInt32)), .val (.ref b35), .unset, .unset, .unset] [(.int (p1.toInt8.toInt32)), (.int (0 : Int32)), (.ref b35)]))
  obtain ⟨cl37, Ar37, Aq37, As37, An37, Ah37, Ag37⟩ := id V35
  obtain ⟨T37, h37, X37, e37, W37, st37⟩ := stB X35 hx hZ e35 Ar37 (j := (0 : Int32)) (inb_of As37 ⟨by decide, by decide⟩) (g := (mkF m 44 #[.val (.int p0), .val (.int p1), .val (.int (1 : Int32)), .val (.int (p1.toInt8.toInt32)), .val (.int (((p1.toUInt32 >>> ((8 : Int32) &&& 31).toUInt32).toInt32).toInt8.toInt32)), .val (.int (((p1.toUInt32 >>> ((16 : Int32) &&& 31).toUInt32).toInt32).toInt8.toInt32)), .val (.int (((p1.toUInt32 >>> ((24 : Int32) &&& 31).toUInt32).toInt32).toInt8.toInt32)), .val (.ref b35), .unset, .unset, .unset] [(.int (p1.toInt8.toInt32)), (.int (0 : Int32)), (.ref b35)])) rfl rfl (hb hby at_44)
  rw [own_narb] at W37
  have V37 : Arv Z h37 b35 k35 .byte (1 : Int32) [(.int (p1.toInt8.toInt32))] (.int (0 : Int32)) := Arv.set Ar37 Aq37 As37 An37 Ah37 Ag37 (fits_nar_byte _) W37 0 rfl (Nat.le_of_ble_eq_true rfl)
  have f38 := B35.wr W37
  have N39 := Fr.snoc X37 N0 q_b35
  have OLD39 := OLD36.wr W37 q_b35
  have K39 := K36.wr W37 (Or.inr sz_b35)
  have Z39 := Nat.le_trans Z36 (Nat.le_of_eq W37.size.symm)
  refine ogoW st37 ?_
  show OwnEndsW _ _ _ _ _ _ _ (T37.setTop (mkF m 45 #[.val (.int p0), .val (.int p1), .val (.int (1 : Int32)), .val (.int (p1.toInt8.toInt32)), .val (.int (((p1.toUInt32 >>> ((8 : Int32) &&& 31).toUInt32).toInt32).toInt8.toInt32)), .val (.int (((p1.toUInt32 >>> ((16 : Int32) &&& 31).toUInt32).toInt32).toInt8.toInt32)), .val (.int (((p1.toUInt32 >>> ((24 : Int32) &&& 31).toUInt32).toInt32).toInt8.toInt32)), .val (.ref b35), .unset, .unset, .unset] []))
  refine ogoW (fun t k => XS.iloadN X37.here hx rfl (hb hby at_45) rfl k) ?_
  show OwnEndsW _ _ _ _ _ _ _ (T37.setTop (mkF m 46 #[.val (.int p0), .val (.int p1), .val (.int (1 : Int32)), .val (.int (p1.toInt8.toInt32)), .val (.int (((p1.toUInt32 >>> ((8 : Int32) &&& 31).toUInt32).toInt32).toInt8.toInt32)), .val (.int (((p1.toUInt32 >>> ((16 : Int32) &&& 31).toUInt32).toInt32).toInt8.toInt32)), .val (.int (((p1.toUInt32 >>> ((24 : Int32) &&& 31).toUInt32).toInt32).toInt8.toInt32)), .val (.ref b35), .unset, .unset, .unset] [(.int (1 : Int32))]))
  refine ogoW (fun t k => XS.iconst X37.here hx rfl (hb hby at_46) k) ?_
  show OwnEndsW _ _ _ _ _ _ _ (T37.setTop (mkF m 47 #[.val (.int p0), .val (.int p1), .val (.int (1 : Int32)), .val (.int (p1.toInt8.toInt32)), .val (.int (((p1.toUInt32 >>> ((8 : Int32) &&& 31).toUInt32).toInt32).toInt8.toInt32)), .val (.int (((p1.toUInt32 >>> ((16 : Int32) &&& 31).toUInt32).toInt32).toInt8.toInt32)), .val (.int (((p1.toUInt32 >>> ((24 : Int32) &&& 31).toUInt32).toInt32).toInt8.toInt32)), .val (.ref b35), .unset, .unset, .unset] [(.int (1 : Int32)), (.int (1 : Int32))]))
  refine ogoW (fun t k => XS.icmpYes X37.here hx rfl (pc0 := 47) (pc' := 56) rfl (hb hby at_47) rfl (flt (by decide : ¬ ((1 : Int32) < (1 : Int32)))).2.2.2 (by decide) (by decide) k) ?_
  show OwnEndsW _ _ _ _ _ _ _ (T37.setTop (mkF m 56 #[.val (.int p0), .val (.int p1), .val (.int (1 : Int32)), .val (.int (p1.toInt8.toInt32)), .val (.int (((p1.toUInt32 >>> ((8 : Int32) &&& 31).toUInt32).toInt32).toInt8.toInt32)), .val (.int (((p1.toUInt32 >>> ((16 : Int32) &&& 31).toUInt32).toInt32).toInt8.toInt32)), .val (.int (((p1.toUInt32 >>> ((24 : Int32) &&& 31).toUInt32).toInt32).toInt8.toInt32)), .val (.ref b35), .unset, .unset, .unset] []))
  refine ogoW (fun t k => XS.iloadN X37.here hx rfl (hb hby at_56) rfl k) ?_
  show OwnEndsW _ _ _ _ _ _ _ (T37.setTop (mkF m 57 #[.val (.int p0), .val (.int p1), .val (.int (1 : Int32)), .val (.int (p1.toInt8.toInt32)), .val (.int (((p1.toUInt32 >>> ((8 : Int32) &&& 31).toUInt32).toInt32).toInt8.toInt32)), .val (.int (((p1.toUInt32 >>> ((16 : Int32) &&& 31).toUInt32).toInt32).toInt8.toInt32)), .val (.int (((p1.toUInt32 >>> ((24 : Int32) &&& 31).toUInt32).toInt32).toInt8.toInt32)), .val (.ref b35), .unset, .unset, .unset] [(.int (1 : Int32))]))
  refine ogoW (fun t k => XS.iconst X37.here hx rfl (hb hby at_57) k) ?_
  show OwnEndsW _ _ _ _ _ _ _ (T37.setTop (mkF m 58 #[.val (.int p0), .val (.int p1), .val (.int (1 : Int32)), .val (.int (p1.toInt8.toInt32)), .val (.int (((p1.toUInt32 >>> ((8 : Int32) &&& 31).toUInt32).toInt32).toInt8.toInt32)), .val (.int (((p1.toUInt32 >>> ((16 : Int32) &&& 31).toUInt32).toInt32).toInt8.toInt32)), .val (.int (((p1.toUInt32 >>> ((24 : Int32) &&& 31).toUInt32).toInt32).toInt8.toInt32)), .val (.ref b35), .unset, .unset, .unset] [(.int (2 : Int32)), (.int (1 : Int32))]))
  refine ogoW (fun t k => XS.icmpYes X37.here hx rfl (pc0 := 58) (pc' := 67) rfl (hb hby at_58) rfl (flt (by decide : ¬ ((2 : Int32) < (1 : Int32)))).2.2.2 (by decide) (by decide) k) ?_
  show OwnEndsW _ _ _ _ _ _ _ (T37.setTop (mkF m 67 #[.val (.int p0), .val (.int p1), .val (.int (1 : Int32)), .val (.int (p1.toInt8.toInt32)), .val (.int (((p1.toUInt32 >>> ((8 : Int32) &&& 31).toUInt32).toInt32).toInt8.toInt32)), .val (.int (((p1.toUInt32 >>> ((16 : Int32) &&& 31).toUInt32).toInt32).toInt8.toInt32)), .val (.int (((p1.toUInt32 >>> ((24 : Int32) &&& 31).toUInt32).toInt32).toInt8.toInt32)), .val (.ref b35), .unset, .unset, .unset] []))
  refine ogoW (fun t k => XS.iloadN X37.here hx rfl (hb hby at_67) rfl k) ?_
  show OwnEndsW _ _ _ _ _ _ _ (T37.setTop (mkF m 68 #[.val (.int p0), .val (.int p1), .val (.int (1 : Int32)), .val (.int (p1.toInt8.toInt32)), .val (.int (((p1.toUInt32 >>> ((8 : Int32) &&& 31).toUInt32).toInt32).toInt8.toInt32)), .val (.int (((p1.toUInt32 >>> ((16 : Int32) &&& 31).toUInt32).toInt32).toInt8.toInt32)), .val (.int (((p1.toUInt32 >>> ((24 : Int32) &&& 31).toUInt32).toInt32).toInt8.toInt32)), .val (.ref b35), .unset, .unset, .unset] [(.int (1 : Int32))]))
  refine ogoW (fun t k => XS.iconst X37.here hx rfl (hb hby at_68) k) ?_
  show OwnEndsW _ _ _ _ _ _ _ (T37.setTop (mkF m 69 #[.val (.int p0), .val (.int p1), .val (.int (1 : Int32)), .val (.int (p1.toInt8.toInt32)), .val (.int (((p1.toUInt32 >>> ((8 : Int32) &&& 31).toUInt32).toInt32).toInt8.toInt32)), .val (.int (((p1.toUInt32 >>> ((16 : Int32) &&& 31).toUInt32).toInt32).toInt8.toInt32)), .val (.int (((p1.toUInt32 >>> ((24 : Int32) &&& 31).toUInt32).toInt32).toInt8.toInt32)), .val (.ref b35), .unset, .unset, .unset] [(.int (3 : Int32)), (.int (1 : Int32))]))
  refine ogoW (fun t k => XS.icmpYes X37.here hx rfl (pc0 := 69) (pc' := 78) rfl (hb hby at_69) rfl (flt (by decide : ¬ ((3 : Int32) < (1 : Int32)))).2.2.2 (by decide) (by decide) k) ?_
  show OwnEndsW _ _ _ _ _ _ _ (T37.setTop (mkF m 78 #[.val (.int p0), .val (.int p1), .val (.int (1 : Int32)), .val (.int (p1.toInt8.toInt32)), .val (.int (((p1.toUInt32 >>> ((8 : Int32) &&& 31).toUInt32).toInt32).toInt8.toInt32)), .val (.int (((p1.toUInt32 >>> ((16 : Int32) &&& 31).toUInt32).toInt32).toInt8.toInt32)), .val (.int (((p1.toUInt32 >>> ((24 : Int32) &&& 31).toUInt32).toInt32).toInt8.toInt32)), .val (.ref b35), .unset, .unset, .unset] []))
  refine ogoW (fun t k => XS.aload X37.here hx rfl (hb hby at_78) rfl rfl k) ?_
  show OwnEndsW _ _ _ _ _ _ _ (T37.setTop (mkF m 80 #[.val (.int p0), .val (.int p1), .val (.int (1 : Int32)), .val (.int (p1.toInt8.toInt32)), .val (.int (((p1.toUInt32 >>> ((8 : Int32) &&& 31).toUInt32).toInt32).toInt8.toInt32)), .val (.int (((p1.toUInt32 >>> ((16 : Int32) &&& 31).toUInt32).toInt32).toInt8.toInt32)), .val (.int (((p1.toUInt32 >>> ((24 : Int32) &&& 31).toUInt32).toInt32).toInt8.toInt32)), .val (.ref b35), .unset, .unset, .unset] [(.ref b35)]))
  obtain ⟨v40, _, ⟨T40, L40, k40, n40⟩, -, X40, hSq40, hgq40, ⟨Lc40, hQ40, l40, y40, z40⟩, st40⟩ := callSS X37 hx (y := (⟨"com/example/once_guard/onceguard/ClaimResult", "inProgress", "([B)Lcom/example/once_guard/onceguard/ClaimResult;"⟩ : MethodName)) hown (mvT hZ (hw _ (List.mem_of_getElem? (i := 2) rfl))) (mvT hZ (hw _ (List.mem_of_getElem? (i := 3) rfl))) (mvT hZ (hw _ (List.mem_of_getElem? (i := 4) rfl))) (mvT hZ (hw _ (List.mem_of_getElem? (i := 5) rfl))) (by decide) (backOfS (W := 0) (rm5 l Z a0 hw [] b35 (1 : Int32) [(.int (p1.toInt8.toInt32))] w_IN_PROGRESS h37 n0 Z39 OLD39 S_IN_PROGRESS ⟨_, V37⟩ f38 (by decide)) hZ (hw _ (List.mem_of_getElem? (i := 5) rfl)) (hw _ (List.mem_of_getElem? (i := 4) rfl)) (by decide) (by decide)) (g := (mkF m 80 #[.val (.int p0), .val (.int p1), .val (.int (1 : Int32)), .val (.int (p1.toInt8.toInt32)), .val (.int (((p1.toUInt32 >>> ((8 : Int32) &&& 31).toUInt32).toInt32).toInt8.toInt32)), .val (.int (((p1.toUInt32 >>> ((16 : Int32) &&& 31).toUInt32).toInt32).toInt8.toInt32)), .val (.int (((p1.toUInt32 >>> ((24 : Int32) &&& 31).toUInt32).toInt32).toInt8.toInt32)), .val (.ref b35), .unset, .unset, .unset] [(.ref b35)])) rfl (by rw [hml]; rfl) (argsL := [(.ref b35)]) (rest := []) (lenOf pd_f29d2ef6 rfl) rfl (by show 2 * 0 + _ ≤ _; exact Nat.le_of_eq rfl) (hb hby at_80) (fun _ _ => ⟨rfl, e37, (by decide : 1 + 4 ≤ _), (by decide : 1 + 132 ≤ _)⟩)
  dsimp only [Pt.U, Pt.locs, Pt.cells, Pt.slots] at X40 l40 y40 z40 st40 hQ40 hSq40 hgq40
  subst l40 y40 z40
  obtain ⟨X40, hS40, hZ, hown⟩ := rebS hS0 (by rw [e37]; exact (Nat.zero_le _)) X40 hSq40 hgq40 hZ hown
  obtain ⟨r40, x40, rfl, Sq40, Sp40, N40q, Kq40, Eq40, Fa40, Fb40, Vq40, Ec40⟩ := hQ40
  have N40 := Fr.app N39 N40q
  have ne_b35_r40 : b35 ≠ r40 := Nat.ne_of_lt (Nat.lt_of_lt_of_le (V37).lt Sq40)
  have q_r40 : n0 ≤ r40 := Nat.le_trans Z39 Sq40
  have sz_r40 : h0.size ≤ r40 := Nat.le_trans K39.1 Sq40
  have ne_b35_x40 : b35 ≠ x40 := Nat.ne_of_lt (Nat.lt_of_lt_of_le (V37).lt Sp40)
  have q_x40 : n0 ≤ x40 := Nat.le_trans Z39 Sp40
  have sz_x40 : h0.size ≤ x40 := Nat.le_trans K39.1 Sp40
  have f41 := V37.keep Kq40 nin0
  have f42 := f38.keep Kq40
  have OLD43 := OLD39.keep Kq40 all0
  have K43 := K39.trans Kq40 all0
  have Z43 := Nat.le_trans Z39 Kq40.1
  refine ogoW (fun t k => st40.trans k) ?_
  show OwnEndsW _ _ _ _ _ _ _ (T40.setTop (mkF m 83 #[.val (.int p0), .val (.int p1), .val (.int (1 : Int32)), .val (.int (p1.toInt8.toInt32)), .val (.int (((p1.toUInt32 >>> ((8 : Int32) &&& 31).toUInt32).toInt32).toInt8.toInt32)), .val (.int (((p1.toUInt32 >>> ((16 : Int32) &&& 31).toUInt32).toInt32).toInt8.toInt32)), .val (.int (((p1.toUInt32 >>> ((24 : Int32) &&& 31).toUInt32).toInt32).toInt8.toInt32)), .val (.ref b35), .unset, .unset, .unset] [(.ref r40)]))
  refine ogoW (fun t k => XS.astore X40.here hx rfl (hb hby at_83) rfl rfl (l' := #[.val (.int p0), .val (.int p1), .val (.int (1 : Int32)), .val (.int (p1.toInt8.toInt32)), .val (.int (((p1.toUInt32 >>> ((8 : Int32) &&& 31).toUInt32).toInt32).toInt8.toInt32)), .val (.int (((p1.toUInt32 >>> ((16 : Int32) &&& 31).toUInt32).toInt32).toInt8.toInt32)), .val (.int (((p1.toUInt32 >>> ((24 : Int32) &&& 31).toUInt32).toInt32).toInt8.toInt32)), .val (.ref b35), .val (.ref r40), .unset, .unset]) rfl k) ?_
  show OwnEndsW _ _ _ _ _ _ _ (T40.setTop (mkF m 85 #[.val (.int p0), .val (.int p1), .val (.int (1 : Int32)), .val (.int (p1.toInt8.toInt32)), .val (.int (((p1.toUInt32 >>> ((8 : Int32) &&& 31).toUInt32).toInt32).toInt8.toInt32)), .val (.int (((p1.toUInt32 >>> ((16 : Int32) &&& 31).toUInt32).toInt32).toInt8.toInt32)), .val (.int (((p1.toUInt32 >>> ((24 : Int32) &&& 31).toUInt32).toInt32).toInt8.toInt32)), .val (.ref b35), .val (.ref r40), .unset, .unset] []))
  refine ogoW (fun t k => XS.iloadN X40.here hx rfl (hb hby at_85) rfl k) ?_
  show OwnEndsW _ _ _ _ _ _ _ (T40.setTop (mkF m 86 #[.val (.int p0), .val (.int p1), .val (.int (1 : Int32)), .val (.int (p1.toInt8.toInt32)), .val (.int (((p1.toUInt32 >>> ((8 : Int32) &&& 31).toUInt32).toInt32).toInt8.toInt32)), .val (.int (((p1.toUInt32 >>> ((16 : Int32) &&& 31).toUInt32).toInt32).toInt8.toInt32)), .val (.int (((p1.toUInt32 >>> ((24 : Int32) &&& 31).toUInt32).toInt32).toInt8.toInt32)), .val (.ref b35), .val (.ref r40), .unset, .unset] [(.int (1 : Int32))]))
  refine ogoW (fun t k => XS.ifNo X40.here hx rfl (hb hby at_86) rfl ((if0 _ _).trans (tlt (by decide : (0 : Int32) < (1 : Int32))).2.2.2) k) ?_
  show OwnEndsW _ _ _ _ _ _ _ (T40.setTop (mkF m 89 #[.val (.int p0), .val (.int p1), .val (.int (1 : Int32)), .val (.int (p1.toInt8.toInt32)), .val (.int (((p1.toUInt32 >>> ((8 : Int32) &&& 31).toUInt32).toInt32).toInt8.toInt32)), .val (.int (((p1.toUInt32 >>> ((16 : Int32) &&& 31).toUInt32).toInt32).toInt8.toInt32)), .val (.int (((p1.toUInt32 >>> ((24 : Int32) &&& 31).toUInt32).toInt32).toInt8.toInt32)), .val (.ref b35), .val (.ref r40), .unset, .unset] []))
  refine ogoW (fun t k => XS.aload X40.here hx rfl (hb hby at_89) rfl rfl k) ?_
  show OwnEndsW _ _ _ _ _ _ _ (T40.setTop (mkF m 91 #[.val (.int p0), .val (.int p1), .val (.int (1 : Int32)), .val (.int (p1.toInt8.toInt32)), .val (.int (((p1.toUInt32 >>> ((8 : Int32) &&& 31).toUInt32).toInt32).toInt8.toInt32)), .val (.int (((p1.toUInt32 >>> ((16 : Int32) &&& 31).toUInt32).toInt32).toInt8.toInt32)), .val (.int (((p1.toUInt32 >>> ((24 : Int32) &&& 31).toUInt32).toInt32).toInt8.toInt32)), .val (.ref b35), .val (.ref r40), .unset, .unset] [(.ref b35)]))
  refine ogoW (fun t k => XS.iconst X40.here hx rfl (hb hby at_91) k) ?_
  show OwnEndsW _ _ _ _ _ _ _ (T40.setTop (mkF m 92 #[.val (.int p0), .val (.int p1), .val (.int (1 : Int32)), .val (.int (p1.toInt8.toInt32)), .val (.int (((p1.toUInt32 >>> ((8 : Int32) &&& 31).toUInt32).toInt32).toInt8.toInt32)), .val (.int (((p1.toUInt32 >>> ((16 : Int32) &&& 31).toUInt32).toInt32).toInt8.toInt32)), .val (.int (((p1.toUInt32 >>> ((24 : Int32) &&& 31).toUInt32).toInt32).toInt8.toInt32)), .val (.ref b35), .val (.ref r40), .unset, .unset] [(.int (0 : Int32)), (.ref b35)]))
  refine ogoW (fun t k => XS.iloadN X40.here hx rfl (hb hby at_92) rfl k) ?_
  show OwnEndsW _ _ _ _ _ _ _ (T40.setTop (mkF m 93 #[.val (.int p0), .val (.int p1), .val (.int (1 : Int32)), .val (.int (p1.toInt8.toInt32)), .val (.int (((p1.toUInt32 >>> ((8 : Int32) &&& 31).toUInt32).toInt32).toInt8.toInt32)), .val (.int (((p1.toUInt32 >>> ((16 : Int32) &&& 31).toUInt32).toInt32).toInt8.toInt32)), .val (.int (((p1.toUInt32 >>> ((24 : Int32) &&& 31).toUInt32).toInt32).toInt8.toInt32)), .val (.ref b35), .val (.ref r40), .unset, .unset] [(.int (p1.toInt8.toInt32)), (.int (0 : Int32)), (.ref b35)]))
  refine ogoW (fun t k => XS.iconst X40.here hx rfl (hb hby at_93) k) ?_
  show OwnEndsW _ _ _ _ _ _ _ (T40.setTop (mkF m 94 #[.val (.int p0), .val (.int p1), .val (.int (1 : Int32)), .val (.int (p1.toInt8.toInt32)), .val (.int (((p1.toUInt32 >>> ((8 : Int32) &&& 31).toUInt32).toInt32).toInt8.toInt32)), .val (.int (((p1.toUInt32 >>> ((16 : Int32) &&& 31).toUInt32).toInt32).toInt8.toInt32)), .val (.int (((p1.toUInt32 >>> ((24 : Int32) &&& 31).toUInt32).toInt32).toInt8.toInt32)), .val (.ref b35), .val (.ref r40), .unset, .unset] [(.int (-1 : Int32)), (.int (p1.toInt8.toInt32)), (.int (0 : Int32)), (.ref b35)]))
  refine ogoW (fun t k => XS.ixor X40.here hx rfl (hb hby at_94) rfl k) ?_
  show OwnEndsW _ _ _ _ _ _ _ (T40.setTop (mkF m 95 #[.val (.int p0), .val (.int p1), .val (.int (1 : Int32)), .val (.int (p1.toInt8.toInt32)), .val (.int (((p1.toUInt32 >>> ((8 : Int32) &&& 31).toUInt32).toInt32).toInt8.toInt32)), .val (.int (((p1.toUInt32 >>> ((16 : Int32) &&& 31).toUInt32).toInt32).toInt8.toInt32)), .val (.int (((p1.toUInt32 >>> ((24 : Int32) &&& 31).toUInt32).toInt32).toInt8.toInt32)), .val (.ref b35), .val (.ref r40), .unset, .unset] [(.int ((p1.toInt8.toInt32) ^^^ (-1 : Int32))), (.int (0 : Int32)), (.ref b35)]))
  refine ogoW (fun t k => XS.i2b X40.here hx rfl (hb hby at_95) rfl k) ?_
  show OwnEndsW _ _ _ _ _ _ _ (T40.setTop (mkF m 96 #[.val (.int p0), .val (.int p1), .val (.int (1 : Int32)), .val (.int (p1.toInt8.toInt32)), .val (.int (((p1.toUInt32 >>> ((8 : Int32) &&& 31).toUInt32).toInt32).toInt8.toInt32)), .val (.int (((p1.toUInt32 >>> ((16 : Int32) &&& 31).toUInt32).toInt32).toInt8.toInt32)), .val (.int (((p1.toUInt32 >>> ((24 : Int32) &&& 31).toUInt32).toInt32).toInt8.toInt32)), .val (.ref b35), .val (.ref r40), .unset, .unset] [(.int (((p1.toInt8.toInt32) ^^^ (-1 : Int32)).toInt8.toInt32)), (.int (0 : Int32)), (.ref b35)]))
  obtain ⟨cl44, Ar44, Aq44, As44, An44, Ah44, Ag44⟩ := id f41
  obtain ⟨T44, h44, X44, e44, W44, st44⟩ := stB X40 hx hZ rfl Ar44 (j := (0 : Int32)) (inb_of As44 ⟨by decide, by decide⟩) (g := (mkF m 96 #[.val (.int p0), .val (.int p1), .val (.int (1 : Int32)), .val (.int (p1.toInt8.toInt32)), .val (.int (((p1.toUInt32 >>> ((8 : Int32) &&& 31).toUInt32).toInt32).toInt8.toInt32)), .val (.int (((p1.toUInt32 >>> ((16 : Int32) &&& 31).toUInt32).toInt32).toInt8.toInt32)), .val (.int (((p1.toUInt32 >>> ((24 : Int32) &&& 31).toUInt32).toInt32).toInt8.toInt32)), .val (.ref b35), .val (.ref r40), .unset, .unset] [(.int (((p1.toInt8.toInt32) ^^^ (-1 : Int32)).toInt8.toInt32)), (.int (0 : Int32)), (.ref b35)])) rfl rfl (hb hby at_96)
  rw [own_narb] at W44
  have V44 : Arv Z h44 b35 k35 .byte (1 : Int32) [(.int (((p1.toInt8.toInt32) ^^^ (-1 : Int32)).toInt8.toInt32))] (.int (0 : Int32)) := Arv.set Ar44 Aq44 As44 An44 Ah44 Ag44 (fits_nar_byte _) W44 0 rfl (Nat.le_of_ble_eq_true rfl)
  have f45 := f42.wr W44
  have f46 := Eq40.wr W44
  have f47 := Fa40.other W44 (Or.inl (Ne.symm ne_b35_r40))
  have f48 := Fb40.other W44 (Or.inl (Ne.symm ne_b35_r40))
  have f49 := Vq40.other W44 (Ne.symm ne_b35_x40)
  have f50 := Ec40.wr W44
  have N51 := Fr.snoc X44 N40 q_b35
  have OLD51 := OLD43.wr W44 q_b35
  have K51 := K43.wr W44 (Or.inr sz_b35)
  have Z51 := Nat.le_trans Z43 (Nat.le_of_eq W44.size.symm)
  have hk52 := Nat.le_trans (Nat.le_refl _) (Nat.le_of_eq W44.size.symm)
  refine ogoW st44 ?_
  show OwnEndsW _ _ _ _ _ _ _ (T44.setTop (mkF m 97 #[.val (.int p0), .val (.int p1), .val (.int (1 : Int32)), .val (.int (p1.toInt8.toInt32)), .val (.int (((p1.toUInt32 >>> ((8 : Int32) &&& 31).toUInt32).toInt32).toInt8.toInt32)), .val (.int (((p1.toUInt32 >>> ((16 : Int32) &&& 31).toUInt32).toInt32).toInt8.toInt32)), .val (.int (((p1.toUInt32 >>> ((24 : Int32) &&& 31).toUInt32).toInt32).toInt8.toInt32)), .val (.ref b35), .val (.ref r40), .unset, .unset] []))
  refine ogoW (fun t k => XS.iloadN X44.here hx rfl (hb hby at_97) rfl k) ?_
  show OwnEndsW _ _ _ _ _ _ _ (T44.setTop (mkF m 98 #[.val (.int p0), .val (.int p1), .val (.int (1 : Int32)), .val (.int (p1.toInt8.toInt32)), .val (.int (((p1.toUInt32 >>> ((8 : Int32) &&& 31).toUInt32).toInt32).toInt8.toInt32)), .val (.int (((p1.toUInt32 >>> ((16 : Int32) &&& 31).toUInt32).toInt32).toInt8.toInt32)), .val (.int (((p1.toUInt32 >>> ((24 : Int32) &&& 31).toUInt32).toInt32).toInt8.toInt32)), .val (.ref b35), .val (.ref r40), .unset, .unset] [(.int (1 : Int32))]))
  refine ogoW (fun t k => XS.iconst X44.here hx rfl (hb hby at_98) k) ?_
  show OwnEndsW _ _ _ _ _ _ _ (T44.setTop (mkF m 99 #[.val (.int p0), .val (.int p1), .val (.int (1 : Int32)), .val (.int (p1.toInt8.toInt32)), .val (.int (((p1.toUInt32 >>> ((8 : Int32) &&& 31).toUInt32).toInt32).toInt8.toInt32)), .val (.int (((p1.toUInt32 >>> ((16 : Int32) &&& 31).toUInt32).toInt32).toInt8.toInt32)), .val (.int (((p1.toUInt32 >>> ((24 : Int32) &&& 31).toUInt32).toInt32).toInt8.toInt32)), .val (.ref b35), .val (.ref r40), .unset, .unset] [(.int (1 : Int32)), (.int (1 : Int32))]))
  refine ogoW (fun t k => XS.icmpYes X44.here hx rfl (pc0 := 99) (pc' := 111) rfl (hb hby at_99) rfl (flt (by decide : ¬ ((1 : Int32) < (1 : Int32)))).2.2.2 (by decide) (by decide) k) ?_
  show OwnEndsW _ _ _ _ _ _ _ (T44.setTop (mkF m 111 #[.val (.int p0), .val (.int p1), .val (.int (1 : Int32)), .val (.int (p1.toInt8.toInt32)), .val (.int (((p1.toUInt32 >>> ((8 : Int32) &&& 31).toUInt32).toInt32).toInt8.toInt32)), .val (.int (((p1.toUInt32 >>> ((16 : Int32) &&& 31).toUInt32).toInt32).toInt8.toInt32)), .val (.int (((p1.toUInt32 >>> ((24 : Int32) &&& 31).toUInt32).toInt32).toInt8.toInt32)), .val (.ref b35), .val (.ref r40), .unset, .unset] []))
  refine ogoW (fun t k => XS.iloadN X44.here hx rfl (hb hby at_111) rfl k) ?_
  show OwnEndsW _ _ _ _ _ _ _ (T44.setTop (mkF m 112 #[.val (.int p0), .val (.int p1), .val (.int (1 : Int32)), .val (.int (p1.toInt8.toInt32)), .val (.int (((p1.toUInt32 >>> ((8 : Int32) &&& 31).toUInt32).toInt32).toInt8.toInt32)), .val (.int (((p1.toUInt32 >>> ((16 : Int32) &&& 31).toUInt32).toInt32).toInt8.toInt32)), .val (.int (((p1.toUInt32 >>> ((24 : Int32) &&& 31).toUInt32).toInt32).toInt8.toInt32)), .val (.ref b35), .val (.ref r40), .unset, .unset] [(.int (1 : Int32))]))
  refine ogoW (fun t k => XS.iconst X44.here hx rfl (hb hby at_112) k) ?_
  show OwnEndsW _ _ _ _ _ _ _ (T44.setTop (mkF m 113 #[.val (.int p0), .val (.int p1), .val (.int (1 : Int32)), .val (.int (p1.toInt8.toInt32)), .val (.int (((p1.toUInt32 >>> ((8 : Int32) &&& 31).toUInt32).toInt32).toInt8.toInt32)), .val (.int (((p1.toUInt32 >>> ((16 : Int32) &&& 31).toUInt32).toInt32).toInt8.toInt32)), .val (.int (((p1.toUInt32 >>> ((24 : Int32) &&& 31).toUInt32).toInt32).toInt8.toInt32)), .val (.ref b35), .val (.ref r40), .unset, .unset] [(.int (2 : Int32)), (.int (1 : Int32))]))
  refine ogoW (fun t k => XS.icmpYes X44.here hx rfl (pc0 := 113) (pc' := 125) rfl (hb hby at_113) rfl (flt (by decide : ¬ ((2 : Int32) < (1 : Int32)))).2.2.2 (by decide) (by decide) k) ?_
  show OwnEndsW _ _ _ _ _ _ _ (T44.setTop (mkF m 125 #[.val (.int p0), .val (.int p1), .val (.int (1 : Int32)), .val (.int (p1.toInt8.toInt32)), .val (.int (((p1.toUInt32 >>> ((8 : Int32) &&& 31).toUInt32).toInt32).toInt8.toInt32)), .val (.int (((p1.toUInt32 >>> ((16 : Int32) &&& 31).toUInt32).toInt32).toInt8.toInt32)), .val (.int (((p1.toUInt32 >>> ((24 : Int32) &&& 31).toUInt32).toInt32).toInt8.toInt32)), .val (.ref b35), .val (.ref r40), .unset, .unset] []))
  refine ogoW (fun t k => XS.iloadN X44.here hx rfl (hb hby at_125) rfl k) ?_
  show OwnEndsW _ _ _ _ _ _ _ (T44.setTop (mkF m 126 #[.val (.int p0), .val (.int p1), .val (.int (1 : Int32)), .val (.int (p1.toInt8.toInt32)), .val (.int (((p1.toUInt32 >>> ((8 : Int32) &&& 31).toUInt32).toInt32).toInt8.toInt32)), .val (.int (((p1.toUInt32 >>> ((16 : Int32) &&& 31).toUInt32).toInt32).toInt8.toInt32)), .val (.int (((p1.toUInt32 >>> ((24 : Int32) &&& 31).toUInt32).toInt32).toInt8.toInt32)), .val (.ref b35), .val (.ref r40), .unset, .unset] [(.int (1 : Int32))]))
  refine ogoW (fun t k => XS.iconst X44.here hx rfl (hb hby at_126) k) ?_
  show OwnEndsW _ _ _ _ _ _ _ (T44.setTop (mkF m 127 #[.val (.int p0), .val (.int p1), .val (.int (1 : Int32)), .val (.int (p1.toInt8.toInt32)), .val (.int (((p1.toUInt32 >>> ((8 : Int32) &&& 31).toUInt32).toInt32).toInt8.toInt32)), .val (.int (((p1.toUInt32 >>> ((16 : Int32) &&& 31).toUInt32).toInt32).toInt8.toInt32)), .val (.int (((p1.toUInt32 >>> ((24 : Int32) &&& 31).toUInt32).toInt32).toInt8.toInt32)), .val (.ref b35), .val (.ref r40), .unset, .unset] [(.int (3 : Int32)), (.int (1 : Int32))]))
  refine ogoW (fun t k => XS.icmpYes X44.here hx rfl (pc0 := 127) (pc' := 139) rfl (hb hby at_127) rfl (flt (by decide : ¬ ((3 : Int32) < (1 : Int32)))).2.2.2 (by decide) (by decide) k) ?_
  show OwnEndsW _ _ _ _ _ _ _ (T44.setTop (mkF m 139 #[.val (.int p0), .val (.int p1), .val (.int (1 : Int32)), .val (.int (p1.toInt8.toInt32)), .val (.int (((p1.toUInt32 >>> ((8 : Int32) &&& 31).toUInt32).toInt32).toInt8.toInt32)), .val (.int (((p1.toUInt32 >>> ((16 : Int32) &&& 31).toUInt32).toInt32).toInt8.toInt32)), .val (.int (((p1.toUInt32 >>> ((24 : Int32) &&& 31).toUInt32).toInt32).toInt8.toInt32)), .val (.ref b35), .val (.ref r40), .unset, .unset] []))
  refine ogoW (fun t k => XS.aload X44.here hx rfl (hb hby at_139) rfl rfl k) ?_
  show OwnEndsW _ _ _ _ _ _ _ (T44.setTop (mkF m 141 #[.val (.int p0), .val (.int p1), .val (.int (1 : Int32)), .val (.int (p1.toInt8.toInt32)), .val (.int (((p1.toUInt32 >>> ((8 : Int32) &&& 31).toUInt32).toInt32).toInt8.toInt32)), .val (.int (((p1.toUInt32 >>> ((16 : Int32) &&& 31).toUInt32).toInt32).toInt8.toInt32)), .val (.int (((p1.toUInt32 >>> ((24 : Int32) &&& 31).toUInt32).toInt32).toInt8.toInt32)), .val (.ref b35), .val (.ref r40), .unset, .unset] [(.ref r40)]))
  obtain ⟨cq53, kq53, q53a, q53b, q53c⟩ := isOf hZ e44 f46
  obtain ⟨v53, _, ⟨T53, L53, k53, n53⟩, -, X53, ⟨Lc53, hQ53, l53, y53, z53⟩, st53⟩ := X44.virtualBack hx (y := (⟨"com/example/once_guard/onceguard/ClaimResult", "state", "()Lcom/example/once_guard/onceguard/ClaimResult$State;"⟩ : MethodName)) (z := (⟨"com/example/once_guard/onceguard/ClaimResult", "state", "()Lcom/example/once_guard/onceguard/ClaimResult$State;"⟩ : MethodName)) hown (mvT hZ (hw _ (List.mem_of_getElem? (i := 45) rfl))) (mvT hZ (hw _ (List.mem_of_getElem? (i := 46) rfl))) (notFace_of_selects (args := #[]) (mvT hZ (hw _ (List.mem_of_getElem? (i := 48) rfl)))) (mvT hZ (hw _ (List.mem_of_getElem? (i := 48) rfl))) (mvT hZ (hw _ (List.mem_of_getElem? (i := 47) rfl))) (by decide) (backOf (W := 0) (rm3 l Z a0 hw [] r40 w_IN_PROGRESS h44 n0 Z51 f47) hZ (hw _ (List.mem_of_getElem? (i := 49) rfl)) (hw _ (List.mem_of_getElem? (i := 4) rfl)) (by decide) (by decide)) q53a q53c (g := (mkF m 141 #[.val (.int p0), .val (.int p1), .val (.int (1 : Int32)), .val (.int (p1.toInt8.toInt32)), .val (.int (((p1.toUInt32 >>> ((8 : Int32) &&& 31).toUInt32).toInt32).toInt8.toInt32)), .val (.int (((p1.toUInt32 >>> ((16 : Int32) &&& 31).toUInt32).toInt32).toInt8.toInt32)), .val (.int (((p1.toUInt32 >>> ((24 : Int32) &&& 31).toUInt32).toInt32).toInt8.toInt32)), .val (.ref b35), .val (.ref r40), .unset, .unset] [(.ref r40)])) rfl (by rw [hml]; rfl) (Steps.refl _) (argsL := []) (rest := []) (lenOf pd___Lcom_example_once_guard_onceguard_ClaimResult_State_ rfl) rfl (by show 2 * 0 + _ ≤ _; exact Nat.le_of_eq rfl) (hb hby at_141) (fun _ _ => ⟨rfl, e44, (by decide : 5 + 0 ≤ _), (by decide : 133 + 0 ≤ _)⟩)
  dsimp only [Pt.U, Pt.locs, Pt.cells, Pt.slots] at X53 l53 y53 z53 st53 hQ53
  subst l53 y53 z53
  obtain ⟨rfl, N53q, e53⟩ := hQ53
  have N53 := Fr.app N51 N53q
  refine ogoW (fun t k => st53.trans k) ?_
  show OwnEndsW _ _ _ _ _ _ _ (T53.setTop (mkF m 144 #[.val (.int p0), .val (.int p1), .val (.int (1 : Int32)), .val (.int (p1.toInt8.toInt32)), .val (.int (((p1.toUInt32 >>> ((8 : Int32) &&& 31).toUInt32).toInt32).toInt8.toInt32)), .val (.int (((p1.toUInt32 >>> ((16 : Int32) &&& 31).toUInt32).toInt32).toInt8.toInt32)), .val (.int (((p1.toUInt32 >>> ((24 : Int32) &&& 31).toUInt32).toInt32).toInt8.toInt32)), .val (.ref b35), .val (.ref r40), .unset, .unset] [(.ref w_IN_PROGRESS)]))
  obtain ⟨T54, X54, e54, st54⟩ := getS2 X53 hx hZ hown (host := "") (Or.inl (hw _ (List.mem_of_getElem? (i := 50) rfl))) Via.refl e53 (S_IN_PROGRESS.ext OLD51.2) (g := (mkF m 144 #[.val (.int p0), .val (.int p1), .val (.int (1 : Int32)), .val (.int (p1.toInt8.toInt32)), .val (.int (((p1.toUInt32 >>> ((8 : Int32) &&& 31).toUInt32).toInt32).toInt8.toInt32)), .val (.int (((p1.toUInt32 >>> ((16 : Int32) &&& 31).toUInt32).toInt32).toInt8.toInt32)), .val (.int (((p1.toUInt32 >>> ((24 : Int32) &&& 31).toUInt32).toInt32).toInt8.toInt32)), .val (.ref b35), .val (.ref r40), .unset, .unset] [(.ref w_IN_PROGRESS)])) rfl (hb hby at_144)
  refine ogoW st54 ?_
  show OwnEndsW _ _ _ _ _ _ _ (T54.setTop (mkF m 147 #[.val (.int p0), .val (.int p1), .val (.int (1 : Int32)), .val (.int (p1.toInt8.toInt32)), .val (.int (((p1.toUInt32 >>> ((8 : Int32) &&& 31).toUInt32).toInt32).toInt8.toInt32)), .val (.int (((p1.toUInt32 >>> ((16 : Int32) &&& 31).toUInt32).toInt32).toInt8.toInt32)), .val (.int (((p1.toUInt32 >>> ((24 : Int32) &&& 31).toUInt32).toInt32).toInt8.toInt32)), .val (.ref b35), .val (.ref r40), .unset, .unset] [(.ref w_IN_PROGRESS), (.ref w_IN_PROGRESS)]))
  refine ogoW (fun t k => Jvm.RoadKit.acmp (g := (mkF m 147 #[.val (.int p0), .val (.int p1), .val (.int (1 : Int32)), .val (.int (p1.toInt8.toInt32)), .val (.int (((p1.toUInt32 >>> ((8 : Int32) &&& 31).toUInt32).toInt32).toInt8.toInt32)), .val (.int (((p1.toUInt32 >>> ((16 : Int32) &&& 31).toUInt32).toInt32).toInt8.toInt32)), .val (.int (((p1.toUInt32 >>> ((24 : Int32) &&& 31).toUInt32).toInt32).toInt8.toInt32)), .val (.ref b35), .val (.ref r40), .unset, .unset] [(.ref w_IN_PROGRESS), (.ref w_IN_PROGRESS)])) X54 hx rfl rfl rfl (pc0 := 147) (pc' := 152) (same := true) rfl (hb hby at_147) rfl (decide_eq_true (congrArg Value.ref rfl)) (by decide) (by decide) k) ?_
  show OwnEndsW _ _ _ _ _ _ _ (T54.setTop (mkF m 152 #[.val (.int p0), .val (.int p1), .val (.int (1 : Int32)), .val (.int (p1.toInt8.toInt32)), .val (.int (((p1.toUInt32 >>> ((8 : Int32) &&& 31).toUInt32).toInt32).toInt8.toInt32)), .val (.int (((p1.toUInt32 >>> ((16 : Int32) &&& 31).toUInt32).toInt32).toInt8.toInt32)), .val (.int (((p1.toUInt32 >>> ((24 : Int32) &&& 31).toUInt32).toInt32).toInt8.toInt32)), .val (.ref b35), .val (.ref r40), .unset, .unset] []))
  refine ogoW (fun t k => XS.aload X54.here hx rfl (hb hby at_152) rfl rfl k) ?_
  show OwnEndsW _ _ _ _ _ _ _ (T54.setTop (mkF m 154 #[.val (.int p0), .val (.int p1), .val (.int (1 : Int32)), .val (.int (p1.toInt8.toInt32)), .val (.int (((p1.toUInt32 >>> ((8 : Int32) &&& 31).toUInt32).toInt32).toInt8.toInt32)), .val (.int (((p1.toUInt32 >>> ((16 : Int32) &&& 31).toUInt32).toInt32).toInt8.toInt32)), .val (.int (((p1.toUInt32 >>> ((24 : Int32) &&& 31).toUInt32).toInt32).toInt8.toInt32)), .val (.ref b35), .val (.ref r40), .unset, .unset] [(.ref r40)]))
  obtain ⟨cq55, kq55, q55a, q55b, q55c⟩ := isOf hZ e54 f46
  obtain ⟨v55, _, ⟨T55, L55, k55, n55⟩, -, X55, ⟨Lc55, hQ55, l55, y55, z55⟩, st55⟩ := X54.virtualBack hx (y := (⟨"com/example/once_guard/onceguard/ClaimResult", "payloadDigest", "()[B"⟩ : MethodName)) (z := (⟨"com/example/once_guard/onceguard/ClaimResult", "payloadDigest", "()[B"⟩ : MethodName)) hown (mvT hZ (hw _ (List.mem_of_getElem? (i := 51) rfl))) (mvT hZ (hw _ (List.mem_of_getElem? (i := 52) rfl))) (notFace_of_selects (args := #[]) (mvT hZ (hw _ (List.mem_of_getElem? (i := 54) rfl)))) (mvT hZ (hw _ (List.mem_of_getElem? (i := 54) rfl))) (mvT hZ (hw _ (List.mem_of_getElem? (i := 53) rfl))) (by decide) (backOf (W := 0) (rm4 l Z a0 hw [] r40 x40 (1 : Int32) [(.int (p1.toInt8.toInt32))] w_IN_PROGRESS w_CLAIMED h44 n0 Z51 OLD51 S_CLAIMED f47 f48 f49 f50 (by decide) (Fld.ne F_ordinal_IN_PROGRESS F_ordinal_CLAIMED (by simp))) hZ (hw _ (List.mem_of_getElem? (i := 55) rfl)) (hw _ (List.mem_of_getElem? (i := 4) rfl)) (by decide) (by decide)) q55a q55c (g := (mkF m 154 #[.val (.int p0), .val (.int p1), .val (.int (1 : Int32)), .val (.int (p1.toInt8.toInt32)), .val (.int (((p1.toUInt32 >>> ((8 : Int32) &&& 31).toUInt32).toInt32).toInt8.toInt32)), .val (.int (((p1.toUInt32 >>> ((16 : Int32) &&& 31).toUInt32).toInt32).toInt8.toInt32)), .val (.int (((p1.toUInt32 >>> ((24 : Int32) &&& 31).toUInt32).toInt32).toInt8.toInt32)), .val (.ref b35), .val (.ref r40), .unset, .unset] [(.ref r40)])) rfl (by rw [hml]; rfl) (Steps.refl _) (argsL := []) (rest := []) (lenOf pd____B rfl) rfl (by show 2 * 0 + _ ≤ _; exact Nat.le_of_eq rfl) (hb hby at_154) (fun _ _ => ⟨rfl, e54, (by decide : 5 + 1 ≤ _), (by decide : 133 + 4 ≤ _)⟩)
  dsimp only [Pt.U, Pt.locs, Pt.cells, Pt.slots] at X55 l55 y55 z55 st55 hQ55
  subst l55 y55 z55
  obtain ⟨r55, rfl, Sq55, N55q, Kq55, Vq55, Eq55⟩ := hQ55
  have N55 := Fr.app N53 N55q
  have ne_b35_r55 : b35 ≠ r55 := Nat.ne_of_lt (Nat.lt_of_lt_of_le (V44).lt Sq55)
  have ne_r40_r55 : r40 ≠ r55 := Nat.ne_of_lt (Nat.lt_of_lt_of_le (f46).lt Sq55)
  have ne_x40_r55 : x40 ≠ r55 := Nat.ne_of_lt (Nat.lt_of_lt_of_le (f49).lt Sq55)
  have q_r55 : n0 ≤ r55 := Nat.le_trans Z51 Sq55
  have sz_r55 : h0.size ≤ r55 := Nat.le_trans K51.1 Sq55
  have f56 := V44.keep Kq55 nin0
  have f57 := f45.keep Kq55
  have f58 := f46.keep Kq55
  have f59 := f47.keep Kq55 nin0
  have f60 := f48.keep Kq55 nin0
  have f61 := f49.keep Kq55 nin0
  have f62 := f50.keep Kq55
  have OLD63 := OLD51.keep Kq55 all0
  have K63 := K51.trans Kq55 all0
  have Z63 := Nat.le_trans Z51 Kq55.1
  have hk64 := Nat.le_trans hk52 Kq55.1
  refine ogoW (fun t k => st55.trans k) ?_
  show OwnEndsW _ _ _ _ _ _ _ (T55.setTop (mkF m 157 #[.val (.int p0), .val (.int p1), .val (.int (1 : Int32)), .val (.int (p1.toInt8.toInt32)), .val (.int (((p1.toUInt32 >>> ((8 : Int32) &&& 31).toUInt32).toInt32).toInt8.toInt32)), .val (.int (((p1.toUInt32 >>> ((16 : Int32) &&& 31).toUInt32).toInt32).toInt8.toInt32)), .val (.int (((p1.toUInt32 >>> ((24 : Int32) &&& 31).toUInt32).toInt32).toInt8.toInt32)), .val (.ref b35), .val (.ref r40), .unset, .unset] [(.ref r55)]))
  refine ogoW (fun t k => XS.astore X55.here hx rfl (hb hby at_157) rfl rfl (l' := #[.val (.int p0), .val (.int p1), .val (.int (1 : Int32)), .val (.int (p1.toInt8.toInt32)), .val (.int (((p1.toUInt32 >>> ((8 : Int32) &&& 31).toUInt32).toInt32).toInt8.toInt32)), .val (.int (((p1.toUInt32 >>> ((16 : Int32) &&& 31).toUInt32).toInt32).toInt8.toInt32)), .val (.int (((p1.toUInt32 >>> ((24 : Int32) &&& 31).toUInt32).toInt32).toInt8.toInt32)), .val (.ref b35), .val (.ref r40), .val (.ref r55), .unset]) rfl k) ?_
  show OwnEndsW _ _ _ _ _ _ _ (T55.setTop (mkF m 159 #[.val (.int p0), .val (.int p1), .val (.int (1 : Int32)), .val (.int (p1.toInt8.toInt32)), .val (.int (((p1.toUInt32 >>> ((8 : Int32) &&& 31).toUInt32).toInt32).toInt8.toInt32)), .val (.int (((p1.toUInt32 >>> ((16 : Int32) &&& 31).toUInt32).toInt32).toInt8.toInt32)), .val (.int (((p1.toUInt32 >>> ((24 : Int32) &&& 31).toUInt32).toInt32).toInt8.toInt32)), .val (.ref b35), .val (.ref r40), .val (.ref r55), .unset] []))
  refine ogoW (fun t k => XS.aload X55.here hx rfl (hb hby at_159) rfl rfl k) ?_
  show OwnEndsW _ _ _ _ _ _ _ (T55.setTop (mkF m 161 #[.val (.int p0), .val (.int p1), .val (.int (1 : Int32)), .val (.int (p1.toInt8.toInt32)), .val (.int (((p1.toUInt32 >>> ((8 : Int32) &&& 31).toUInt32).toInt32).toInt8.toInt32)), .val (.int (((p1.toUInt32 >>> ((16 : Int32) &&& 31).toUInt32).toInt32).toInt8.toInt32)), .val (.int (((p1.toUInt32 >>> ((24 : Int32) &&& 31).toUInt32).toInt32).toInt8.toInt32)), .val (.ref b35), .val (.ref r40), .val (.ref r55), .unset] [(.ref r55)]))
  refine ogoW (fun t k => XS.iloadN X55.here hx rfl (hb hby at_161) rfl k) ?_
  show OwnEndsW _ _ _ _ _ _ _ (T55.setTop (mkF m 162 #[.val (.int p0), .val (.int p1), .val (.int (1 : Int32)), .val (.int (p1.toInt8.toInt32)), .val (.int (((p1.toUInt32 >>> ((8 : Int32) &&& 31).toUInt32).toInt32).toInt8.toInt32)), .val (.int (((p1.toUInt32 >>> ((16 : Int32) &&& 31).toUInt32).toInt32).toInt8.toInt32)), .val (.int (((p1.toUInt32 >>> ((24 : Int32) &&& 31).toUInt32).toInt32).toInt8.toInt32)), .val (.ref b35), .val (.ref r40), .val (.ref r55), .unset] [(.int (1 : Int32)), (.ref r55)]))
  refine ogoW (fun t k => XS.iloadN X55.here hx rfl (hb hby at_162) rfl k) ?_
  show OwnEndsW _ _ _ _ _ _ _ (T55.setTop (mkF m 163 #[.val (.int p0), .val (.int p1), .val (.int (1 : Int32)), .val (.int (p1.toInt8.toInt32)), .val (.int (((p1.toUInt32 >>> ((8 : Int32) &&& 31).toUInt32).toInt32).toInt8.toInt32)), .val (.int (((p1.toUInt32 >>> ((16 : Int32) &&& 31).toUInt32).toInt32).toInt8.toInt32)), .val (.int (((p1.toUInt32 >>> ((24 : Int32) &&& 31).toUInt32).toInt32).toInt8.toInt32)), .val (.ref b35), .val (.ref r40), .val (.ref r55), .unset] [(.int (p1.toInt8.toInt32)), (.int (1 : Int32)), (.ref r55)]))
  refine ogoW (fun t k => XS.iload X55.here hx rfl (hb hby at_163) rfl k) ?_
  show OwnEndsW _ _ _ _ _ _ _ (T55.setTop (mkF m 165 #[.val (.int p0), .val (.int p1), .val (.int (1 : Int32)), .val (.int (p1.toInt8.toInt32)), .val (.int (((p1.toUInt32 >>> ((8 : Int32) &&& 31).toUInt32).toInt32).toInt8.toInt32)), .val (.int (((p1.toUInt32 >>> ((16 : Int32) &&& 31).toUInt32).toInt32).toInt8.toInt32)), .val (.int (((p1.toUInt32 >>> ((24 : Int32) &&& 31).toUInt32).toInt32).toInt8.toInt32)), .val (.ref b35), .val (.ref r40), .val (.ref r55), .unset] [(.int (((p1.toUInt32 >>> ((8 : Int32) &&& 31).toUInt32).toInt32).toInt8.toInt32)), (.int (p1.toInt8.toInt32)), (.int (1 : Int32)), (.ref r55)]))
  refine ogoW (fun t k => XS.iload X55.here hx rfl (hb hby at_165) rfl k) ?_
  show OwnEndsW _ _ _ _ _ _ _ (T55.setTop (mkF m 167 #[.val (.int p0), .val (.int p1), .val (.int (1 : Int32)), .val (.int (p1.toInt8.toInt32)), .val (.int (((p1.toUInt32 >>> ((8 : Int32) &&& 31).toUInt32).toInt32).toInt8.toInt32)), .val (.int (((p1.toUInt32 >>> ((16 : Int32) &&& 31).toUInt32).toInt32).toInt8.toInt32)), .val (.int (((p1.toUInt32 >>> ((24 : Int32) &&& 31).toUInt32).toInt32).toInt8.toInt32)), .val (.ref b35), .val (.ref r40), .val (.ref r55), .unset] [(.int (((p1.toUInt32 >>> ((16 : Int32) &&& 31).toUInt32).toInt32).toInt8.toInt32)), (.int (((p1.toUInt32 >>> ((8 : Int32) &&& 31).toUInt32).toInt32).toInt8.toInt32)), (.int (p1.toInt8.toInt32)), (.int (1 : Int32)), (.ref r55)]))
  refine ogoW (fun t k => XS.iload X55.here hx rfl (hb hby at_167) rfl k) ?_
  show OwnEndsW _ _ _ _ _ _ _ (T55.setTop (mkF m 169 #[.val (.int p0), .val (.int p1), .val (.int (1 : Int32)), .val (.int (p1.toInt8.toInt32)), .val (.int (((p1.toUInt32 >>> ((8 : Int32) &&& 31).toUInt32).toInt32).toInt8.toInt32)), .val (.int (((p1.toUInt32 >>> ((16 : Int32) &&& 31).toUInt32).toInt32).toInt8.toInt32)), .val (.int (((p1.toUInt32 >>> ((24 : Int32) &&& 31).toUInt32).toInt32).toInt8.toInt32)), .val (.ref b35), .val (.ref r40), .val (.ref r55), .unset] [(.int (((p1.toUInt32 >>> ((24 : Int32) &&& 31).toUInt32).toInt32).toInt8.toInt32)), (.int (((p1.toUInt32 >>> ((16 : Int32) &&& 31).toUInt32).toInt32).toInt8.toInt32)), (.int (((p1.toUInt32 >>> ((8 : Int32) &&& 31).toUInt32).toInt32).toInt8.toInt32)), (.int (p1.toInt8.toInt32)), (.int (1 : Int32)), (.ref r55)]))
  obtain ⟨v65, _, ⟨T65, L65, k65, n65⟩, -, X65, ⟨Lc65, hQ65, l65, y65, z65⟩, st65⟩ := Jvm.LawKit.callS X55 hx (y := (⟨"com/example/once_guard/onceguard/ClaimResultInProgressPinLaw", "same", "([BIBBBB)Z"⟩ : MethodName)) hown (mvT hZ (hw _ (List.mem_of_getElem? (i := 58) rfl))) (mvT hZ (hw _ (List.mem_of_getElem? (i := 59) rfl))) (mvT hZ (hw _ (List.mem_of_getElem? (i := 60) rfl))) (mvT hZ (hw _ (List.mem_of_getElem? (i := 61) rfl))) (by decide) (backOf (W := 0) (rm61 l Z a0 hw [] r55 (p1.toInt8.toInt32) (((p1.toUInt32 >>> ((8 : Int32) &&& 31).toUInt32).toInt32).toInt8.toInt32) (((p1.toUInt32 >>> ((16 : Int32) &&& 31).toUInt32).toInt32).toInt8.toInt32) (((p1.toUInt32 >>> ((24 : Int32) &&& 31).toUInt32).toInt32).toInt8.toInt32) T55.heap n0 Z63 Vq55) hZ (hw _ (List.mem_of_getElem? (i := 61) rfl)) (hw _ (List.mem_of_getElem? (i := 60) rfl)) (by decide) (by decide)) (g := (mkF m 169 #[.val (.int p0), .val (.int p1), .val (.int (1 : Int32)), .val (.int (p1.toInt8.toInt32)), .val (.int (((p1.toUInt32 >>> ((8 : Int32) &&& 31).toUInt32).toInt32).toInt8.toInt32)), .val (.int (((p1.toUInt32 >>> ((16 : Int32) &&& 31).toUInt32).toInt32).toInt8.toInt32)), .val (.int (((p1.toUInt32 >>> ((24 : Int32) &&& 31).toUInt32).toInt32).toInt8.toInt32)), .val (.ref b35), .val (.ref r40), .val (.ref r55), .unset] [(.int (((p1.toUInt32 >>> ((24 : Int32) &&& 31).toUInt32).toInt32).toInt8.toInt32)), (.int (((p1.toUInt32 >>> ((16 : Int32) &&& 31).toUInt32).toInt32).toInt8.toInt32)), (.int (((p1.toUInt32 >>> ((8 : Int32) &&& 31).toUInt32).toInt32).toInt8.toInt32)), (.int (p1.toInt8.toInt32)), (.int (1 : Int32)), (.ref r55)])) rfl (by rw [hml]; rfl) (argsL := [(.ref r55), (.int (1 : Int32)), (.int (p1.toInt8.toInt32)), (.int (((p1.toUInt32 >>> ((8 : Int32) &&& 31).toUInt32).toInt32).toInt8.toInt32)), (.int (((p1.toUInt32 >>> ((16 : Int32) &&& 31).toUInt32).toInt32).toInt8.toInt32)), (.int (((p1.toUInt32 >>> ((24 : Int32) &&& 31).toUInt32).toInt32).toInt8.toInt32))]) (rest := []) (lenOf pd___BIBBBB_Z rfl) rfl (by show 2 * 0 + _ ≤ _; exact Nat.le_of_eq rfl) (hb hby at_169) (fun _ _ => ⟨rfl, rfl, (by decide : 6 + 0 ≤ _), (by decide : 137 + 0 ≤ _)⟩)
  dsimp only [Pt.U, Pt.locs, Pt.cells, Pt.slots] at X65 l65 y65 z65 st65 hQ65
  subst l65 y65 z65
  obtain ⟨rfl, N65q, e65⟩ := hQ65
  have N65 := Fr.app N55 N65q
  refine ogoW (fun t k => st65 t k) ?_
  show OwnEndsW _ _ _ _ _ _ _ (T65.setTop (mkF m 172 #[.val (.int p0), .val (.int p1), .val (.int (1 : Int32)), .val (.int (p1.toInt8.toInt32)), .val (.int (((p1.toUInt32 >>> ((8 : Int32) &&& 31).toUInt32).toInt32).toInt8.toInt32)), .val (.int (((p1.toUInt32 >>> ((16 : Int32) &&& 31).toUInt32).toInt32).toInt8.toInt32)), .val (.int (((p1.toUInt32 >>> ((24 : Int32) &&& 31).toUInt32).toInt32).toInt8.toInt32)), .val (.ref b35), .val (.ref r40), .val (.ref r55), .unset] [(.int (1 : Int32))]))
  refine ogoW (fun t k => XS.ifYes X65.here hx rfl (pc0 := 172) (pc' := 177) rfl (hb hby at_172) rfl ((if0 _ _).trans (feq (by decide : ¬ ((1 : Int32) = (0 : Int32)))).2) (by decide) (by decide) k) ?_
  show OwnEndsW _ _ _ _ _ _ _ (T65.setTop (mkF m 177 #[.val (.int p0), .val (.int p1), .val (.int (1 : Int32)), .val (.int (p1.toInt8.toInt32)), .val (.int (((p1.toUInt32 >>> ((8 : Int32) &&& 31).toUInt32).toInt32).toInt8.toInt32)), .val (.int (((p1.toUInt32 >>> ((16 : Int32) &&& 31).toUInt32).toInt32).toInt8.toInt32)), .val (.int (((p1.toUInt32 >>> ((24 : Int32) &&& 31).toUInt32).toInt32).toInt8.toInt32)), .val (.ref b35), .val (.ref r40), .val (.ref r55), .unset] []))
  refine ogoW (fun t k => XS.iloadN X65.here hx rfl (hb hby at_177) rfl k) ?_
  show OwnEndsW _ _ _ _ _ _ _ (T65.setTop (mkF m 178 #[.val (.int p0), .val (.int p1), .val (.int (1 : Int32)), .val (.int (p1.toInt8.toInt32)), .val (.int (((p1.toUInt32 >>> ((8 : Int32) &&& 31).toUInt32).toInt32).toInt8.toInt32)), .val (.int (((p1.toUInt32 >>> ((16 : Int32) &&& 31).toUInt32).toInt32).toInt8.toInt32)), .val (.int (((p1.toUInt32 >>> ((24 : Int32) &&& 31).toUInt32).toInt32).toInt8.toInt32)), .val (.ref b35), .val (.ref r40), .val (.ref r55), .unset] [(.int (1 : Int32))]))
  refine ogoW (fun t k => XS.ifNo X65.here hx rfl (hb hby at_178) rfl ((if0 _ _).trans (tlt (by decide : (0 : Int32) < (1 : Int32))).2.2.2) k) ?_
  show OwnEndsW _ _ _ _ _ _ _ (T65.setTop (mkF m 181 #[.val (.int p0), .val (.int p1), .val (.int (1 : Int32)), .val (.int (p1.toInt8.toInt32)), .val (.int (((p1.toUInt32 >>> ((8 : Int32) &&& 31).toUInt32).toInt32).toInt8.toInt32)), .val (.int (((p1.toUInt32 >>> ((16 : Int32) &&& 31).toUInt32).toInt32).toInt8.toInt32)), .val (.int (((p1.toUInt32 >>> ((24 : Int32) &&& 31).toUInt32).toInt32).toInt8.toInt32)), .val (.ref b35), .val (.ref r40), .val (.ref r55), .unset] []))
  refine ogoW (fun t k => XS.aload X65.here hx rfl (hb hby at_181) rfl rfl k) ?_
  show OwnEndsW _ _ _ _ _ _ _ (T65.setTop (mkF m 183 #[.val (.int p0), .val (.int p1), .val (.int (1 : Int32)), .val (.int (p1.toInt8.toInt32)), .val (.int (((p1.toUInt32 >>> ((8 : Int32) &&& 31).toUInt32).toInt32).toInt8.toInt32)), .val (.int (((p1.toUInt32 >>> ((16 : Int32) &&& 31).toUInt32).toInt32).toInt8.toInt32)), .val (.int (((p1.toUInt32 >>> ((24 : Int32) &&& 31).toUInt32).toInt32).toInt8.toInt32)), .val (.ref b35), .val (.ref r40), .val (.ref r55), .unset] [(.ref r55)]))
  refine ogoW (fun t k => XS.iconst X65.here hx rfl (hb hby at_183) k) ?_
  show OwnEndsW _ _ _ _ _ _ _ (T65.setTop (mkF m 184 #[.val (.int p0), .val (.int p1), .val (.int (1 : Int32)), .val (.int (p1.toInt8.toInt32)), .val (.int (((p1.toUInt32 >>> ((8 : Int32) &&& 31).toUInt32).toInt32).toInt8.toInt32)), .val (.int (((p1.toUInt32 >>> ((16 : Int32) &&& 31).toUInt32).toInt32).toInt8.toInt32)), .val (.int (((p1.toUInt32 >>> ((24 : Int32) &&& 31).toUInt32).toInt32).toInt8.toInt32)), .val (.ref b35), .val (.ref r40), .val (.ref r55), .unset] [(.int (0 : Int32)), (.ref r55)]))
  refine ogoW (fun t k => XS.iloadN X65.here hx rfl (hb hby at_184) rfl k) ?_
  show OwnEndsW _ _ _ _ _ _ _ (T65.setTop (mkF m 185 #[.val (.int p0), .val (.int p1), .val (.int (1 : Int32)), .val (.int (p1.toInt8.toInt32)), .val (.int (((p1.toUInt32 >>> ((8 : Int32) &&& 31).toUInt32).toInt32).toInt8.toInt32)), .val (.int (((p1.toUInt32 >>> ((16 : Int32) &&& 31).toUInt32).toInt32).toInt8.toInt32)), .val (.int (((p1.toUInt32 >>> ((24 : Int32) &&& 31).toUInt32).toInt32).toInt8.toInt32)), .val (.ref b35), .val (.ref r40), .val (.ref r55), .unset] [(.int (p1.toInt8.toInt32)), (.int (0 : Int32)), (.ref r55)]))
  refine ogoW (fun t k => XS.iconst X65.here hx rfl (hb hby at_185) k) ?_
  show OwnEndsW _ _ _ _ _ _ _ (T65.setTop (mkF m 186 #[.val (.int p0), .val (.int p1), .val (.int (1 : Int32)), .val (.int (p1.toInt8.toInt32)), .val (.int (((p1.toUInt32 >>> ((8 : Int32) &&& 31).toUInt32).toInt32).toInt8.toInt32)), .val (.int (((p1.toUInt32 >>> ((16 : Int32) &&& 31).toUInt32).toInt32).toInt8.toInt32)), .val (.int (((p1.toUInt32 >>> ((24 : Int32) &&& 31).toUInt32).toInt32).toInt8.toInt32)), .val (.ref b35), .val (.ref r40), .val (.ref r55), .unset] [(.int (-1 : Int32)), (.int (p1.toInt8.toInt32)), (.int (0 : Int32)), (.ref r55)]))
  refine ogoW (fun t k => XS.ixor X65.here hx rfl (hb hby at_186) rfl k) ?_
  show OwnEndsW _ _ _ _ _ _ _ (T65.setTop (mkF m 187 #[.val (.int p0), .val (.int p1), .val (.int (1 : Int32)), .val (.int (p1.toInt8.toInt32)), .val (.int (((p1.toUInt32 >>> ((8 : Int32) &&& 31).toUInt32).toInt32).toInt8.toInt32)), .val (.int (((p1.toUInt32 >>> ((16 : Int32) &&& 31).toUInt32).toInt32).toInt8.toInt32)), .val (.int (((p1.toUInt32 >>> ((24 : Int32) &&& 31).toUInt32).toInt32).toInt8.toInt32)), .val (.ref b35), .val (.ref r40), .val (.ref r55), .unset] [(.int ((p1.toInt8.toInt32) ^^^ (-1 : Int32))), (.int (0 : Int32)), (.ref r55)]))
  refine ogoW (fun t k => XS.i2b X65.here hx rfl (hb hby at_187) rfl k) ?_
  show OwnEndsW _ _ _ _ _ _ _ (T65.setTop (mkF m 188 #[.val (.int p0), .val (.int p1), .val (.int (1 : Int32)), .val (.int (p1.toInt8.toInt32)), .val (.int (((p1.toUInt32 >>> ((8 : Int32) &&& 31).toUInt32).toInt32).toInt8.toInt32)), .val (.int (((p1.toUInt32 >>> ((16 : Int32) &&& 31).toUInt32).toInt32).toInt8.toInt32)), .val (.int (((p1.toUInt32 >>> ((24 : Int32) &&& 31).toUInt32).toInt32).toInt8.toInt32)), .val (.ref b35), .val (.ref r40), .val (.ref r55), .unset] [(.int (((p1.toInt8.toInt32) ^^^ (-1 : Int32)).toInt8.toInt32)), (.int (0 : Int32)), (.ref r55)]))
  obtain ⟨ak66, cl66, Ar66, Aq66, As66, An66, Ah66, Ag66⟩ := id Vq55
  obtain ⟨T66, h66, X66, e66, W66, st66⟩ := stB X65 hx hZ e65 Ar66 (j := (0 : Int32)) (inb_of As66 ⟨by decide, by decide⟩) (g := (mkF m 188 #[.val (.int p0), .val (.int p1), .val (.int (1 : Int32)), .val (.int (p1.toInt8.toInt32)), .val (.int (((p1.toUInt32 >>> ((8 : Int32) &&& 31).toUInt32).toInt32).toInt8.toInt32)), .val (.int (((p1.toUInt32 >>> ((16 : Int32) &&& 31).toUInt32).toInt32).toInt8.toInt32)), .val (.int (((p1.toUInt32 >>> ((24 : Int32) &&& 31).toUInt32).toInt32).toInt8.toInt32)), .val (.ref b35), .val (.ref r40), .val (.ref r55), .unset] [(.int (((p1.toInt8.toInt32) ^^^ (-1 : Int32)).toInt8.toInt32)), (.int (0 : Int32)), (.ref r55)])) rfl rfl (hb hby at_188)
  rw [own_narb] at W66
  have V66 : Arv Z h66 r55 ak66 .byte (1 : Int32) [(.int (((p1.toInt8.toInt32) ^^^ (-1 : Int32)).toInt8.toInt32))] (.int (0 : Int32)) := Arv.set Ar66 Aq66 As66 An66 Ah66 Ag66 (fits_nar_byte _) W66 0 rfl (Nat.le_of_ble_eq_true rfl)
  have f67 := f56.other W66 ne_b35_r55
  have f68 := f57.wr W66
  have f69 := f58.wr W66
  have f70 := f59.other W66 (Or.inl ne_r40_r55)
  have f71 := f60.other W66 (Or.inl ne_r40_r55)
  have f72 := f61.other W66 ne_x40_r55
  have f73 := f62.wr W66
  have f74 := Eq55.wr W66
  have N75 := Fr.snoc X66 N65 q_r55
  have OLD75 := OLD63.wr W66 q_r55
  have K75 := K63.wr W66 (Or.inr sz_r55)
  have Z75 := Nat.le_trans Z63 (Nat.le_of_eq W66.size.symm)
  have hk76 := Nat.le_trans hk64 (Nat.le_of_eq W66.size.symm)
  refine ogoW st66 ?_
  show OwnEndsW _ _ _ _ _ _ _ (T66.setTop (mkF m 189 #[.val (.int p0), .val (.int p1), .val (.int (1 : Int32)), .val (.int (p1.toInt8.toInt32)), .val (.int (((p1.toUInt32 >>> ((8 : Int32) &&& 31).toUInt32).toInt32).toInt8.toInt32)), .val (.int (((p1.toUInt32 >>> ((16 : Int32) &&& 31).toUInt32).toInt32).toInt8.toInt32)), .val (.int (((p1.toUInt32 >>> ((24 : Int32) &&& 31).toUInt32).toInt32).toInt8.toInt32)), .val (.ref b35), .val (.ref r40), .val (.ref r55), .unset] []))
  refine ogoW (fun t k => XS.iloadN X66.here hx rfl (hb hby at_189) rfl k) ?_
  show OwnEndsW _ _ _ _ _ _ _ (T66.setTop (mkF m 190 #[.val (.int p0), .val (.int p1), .val (.int (1 : Int32)), .val (.int (p1.toInt8.toInt32)), .val (.int (((p1.toUInt32 >>> ((8 : Int32) &&& 31).toUInt32).toInt32).toInt8.toInt32)), .val (.int (((p1.toUInt32 >>> ((16 : Int32) &&& 31).toUInt32).toInt32).toInt8.toInt32)), .val (.int (((p1.toUInt32 >>> ((24 : Int32) &&& 31).toUInt32).toInt32).toInt8.toInt32)), .val (.ref b35), .val (.ref r40), .val (.ref r55), .unset] [(.int (1 : Int32))]))
  refine ogoW (fun t k => XS.iconst X66.here hx rfl (hb hby at_190) k) ?_
  show OwnEndsW _ _ _ _ _ _ _ (T66.setTop (mkF m 191 #[.val (.int p0), .val (.int p1), .val (.int (1 : Int32)), .val (.int (p1.toInt8.toInt32)), .val (.int (((p1.toUInt32 >>> ((8 : Int32) &&& 31).toUInt32).toInt32).toInt8.toInt32)), .val (.int (((p1.toUInt32 >>> ((16 : Int32) &&& 31).toUInt32).toInt32).toInt8.toInt32)), .val (.int (((p1.toUInt32 >>> ((24 : Int32) &&& 31).toUInt32).toInt32).toInt8.toInt32)), .val (.ref b35), .val (.ref r40), .val (.ref r55), .unset] [(.int (1 : Int32)), (.int (1 : Int32))]))
  refine ogoW (fun t k => XS.icmpYes X66.here hx rfl (pc0 := 191) (pc' := 203) rfl (hb hby at_191) rfl (flt (by decide : ¬ ((1 : Int32) < (1 : Int32)))).2.2.2 (by decide) (by decide) k) ?_
  show OwnEndsW _ _ _ _ _ _ _ (T66.setTop (mkF m 203 #[.val (.int p0), .val (.int p1), .val (.int (1 : Int32)), .val (.int (p1.toInt8.toInt32)), .val (.int (((p1.toUInt32 >>> ((8 : Int32) &&& 31).toUInt32).toInt32).toInt8.toInt32)), .val (.int (((p1.toUInt32 >>> ((16 : Int32) &&& 31).toUInt32).toInt32).toInt8.toInt32)), .val (.int (((p1.toUInt32 >>> ((24 : Int32) &&& 31).toUInt32).toInt32).toInt8.toInt32)), .val (.ref b35), .val (.ref r40), .val (.ref r55), .unset] []))
  refine ogoW (fun t k => XS.iloadN X66.here hx rfl (hb hby at_203) rfl k) ?_
  show OwnEndsW _ _ _ _ _ _ _ (T66.setTop (mkF m 204 #[.val (.int p0), .val (.int p1), .val (.int (1 : Int32)), .val (.int (p1.toInt8.toInt32)), .val (.int (((p1.toUInt32 >>> ((8 : Int32) &&& 31).toUInt32).toInt32).toInt8.toInt32)), .val (.int (((p1.toUInt32 >>> ((16 : Int32) &&& 31).toUInt32).toInt32).toInt8.toInt32)), .val (.int (((p1.toUInt32 >>> ((24 : Int32) &&& 31).toUInt32).toInt32).toInt8.toInt32)), .val (.ref b35), .val (.ref r40), .val (.ref r55), .unset] [(.int (1 : Int32))]))
  refine ogoW (fun t k => XS.iconst X66.here hx rfl (hb hby at_204) k) ?_
  show OwnEndsW _ _ _ _ _ _ _ (T66.setTop (mkF m 205 #[.val (.int p0), .val (.int p1), .val (.int (1 : Int32)), .val (.int (p1.toInt8.toInt32)), .val (.int (((p1.toUInt32 >>> ((8 : Int32) &&& 31).toUInt32).toInt32).toInt8.toInt32)), .val (.int (((p1.toUInt32 >>> ((16 : Int32) &&& 31).toUInt32).toInt32).toInt8.toInt32)), .val (.int (((p1.toUInt32 >>> ((24 : Int32) &&& 31).toUInt32).toInt32).toInt8.toInt32)), .val (.ref b35), .val (.ref r40), .val (.ref r55), .unset] [(.int (2 : Int32)), (.int (1 : Int32))]))
  refine ogoW (fun t k => XS.icmpYes X66.here hx rfl (pc0 := 205) (pc' := 217) rfl (hb hby at_205) rfl (flt (by decide : ¬ ((2 : Int32) < (1 : Int32)))).2.2.2 (by decide) (by decide) k) ?_
  show OwnEndsW _ _ _ _ _ _ _ (T66.setTop (mkF m 217 #[.val (.int p0), .val (.int p1), .val (.int (1 : Int32)), .val (.int (p1.toInt8.toInt32)), .val (.int (((p1.toUInt32 >>> ((8 : Int32) &&& 31).toUInt32).toInt32).toInt8.toInt32)), .val (.int (((p1.toUInt32 >>> ((16 : Int32) &&& 31).toUInt32).toInt32).toInt8.toInt32)), .val (.int (((p1.toUInt32 >>> ((24 : Int32) &&& 31).toUInt32).toInt32).toInt8.toInt32)), .val (.ref b35), .val (.ref r40), .val (.ref r55), .unset] []))
  refine ogoW (fun t k => XS.iloadN X66.here hx rfl (hb hby at_217) rfl k) ?_
  show OwnEndsW _ _ _ _ _ _ _ (T66.setTop (mkF m 218 #[.val (.int p0), .val (.int p1), .val (.int (1 : Int32)), .val (.int (p1.toInt8.toInt32)), .val (.int (((p1.toUInt32 >>> ((8 : Int32) &&& 31).toUInt32).toInt32).toInt8.toInt32)), .val (.int (((p1.toUInt32 >>> ((16 : Int32) &&& 31).toUInt32).toInt32).toInt8.toInt32)), .val (.int (((p1.toUInt32 >>> ((24 : Int32) &&& 31).toUInt32).toInt32).toInt8.toInt32)), .val (.ref b35), .val (.ref r40), .val (.ref r55), .unset] [(.int (1 : Int32))]))
  refine ogoW (fun t k => XS.iconst X66.here hx rfl (hb hby at_218) k) ?_
  show OwnEndsW _ _ _ _ _ _ _ (T66.setTop (mkF m 219 #[.val (.int p0), .val (.int p1), .val (.int (1 : Int32)), .val (.int (p1.toInt8.toInt32)), .val (.int (((p1.toUInt32 >>> ((8 : Int32) &&& 31).toUInt32).toInt32).toInt8.toInt32)), .val (.int (((p1.toUInt32 >>> ((16 : Int32) &&& 31).toUInt32).toInt32).toInt8.toInt32)), .val (.int (((p1.toUInt32 >>> ((24 : Int32) &&& 31).toUInt32).toInt32).toInt8.toInt32)), .val (.ref b35), .val (.ref r40), .val (.ref r55), .unset] [(.int (3 : Int32)), (.int (1 : Int32))]))
  refine ogoW (fun t k => XS.icmpYes X66.here hx rfl (pc0 := 219) (pc' := 231) rfl (hb hby at_219) rfl (flt (by decide : ¬ ((3 : Int32) < (1 : Int32)))).2.2.2 (by decide) (by decide) k) ?_
  show OwnEndsW _ _ _ _ _ _ _ (T66.setTop (mkF m 231 #[.val (.int p0), .val (.int p1), .val (.int (1 : Int32)), .val (.int (p1.toInt8.toInt32)), .val (.int (((p1.toUInt32 >>> ((8 : Int32) &&& 31).toUInt32).toInt32).toInt8.toInt32)), .val (.int (((p1.toUInt32 >>> ((16 : Int32) &&& 31).toUInt32).toInt32).toInt8.toInt32)), .val (.int (((p1.toUInt32 >>> ((24 : Int32) &&& 31).toUInt32).toInt32).toInt8.toInt32)), .val (.ref b35), .val (.ref r40), .val (.ref r55), .unset] []))
  refine ogoW (fun t k => XS.aload X66.here hx rfl (hb hby at_231) rfl rfl k) ?_
  show OwnEndsW _ _ _ _ _ _ _ (T66.setTop (mkF m 233 #[.val (.int p0), .val (.int p1), .val (.int (1 : Int32)), .val (.int (p1.toInt8.toInt32)), .val (.int (((p1.toUInt32 >>> ((8 : Int32) &&& 31).toUInt32).toInt32).toInt8.toInt32)), .val (.int (((p1.toUInt32 >>> ((16 : Int32) &&& 31).toUInt32).toInt32).toInt8.toInt32)), .val (.int (((p1.toUInt32 >>> ((24 : Int32) &&& 31).toUInt32).toInt32).toInt8.toInt32)), .val (.ref b35), .val (.ref r40), .val (.ref r55), .unset] [(.ref r40)]))
  obtain ⟨cq77, kq77, q77a, q77b, q77c⟩ := isOf hZ e66 f69
  obtain ⟨v77, _, ⟨T77, L77, k77, n77⟩, -, X77, ⟨Lc77, hQ77, l77, y77, z77⟩, st77⟩ := X66.virtualBack hx (y := (⟨"com/example/once_guard/onceguard/ClaimResult", "payloadDigest", "()[B"⟩ : MethodName)) (z := (⟨"com/example/once_guard/onceguard/ClaimResult", "payloadDigest", "()[B"⟩ : MethodName)) hown (mvT hZ (hw _ (List.mem_of_getElem? (i := 51) rfl))) (mvT hZ (hw _ (List.mem_of_getElem? (i := 52) rfl))) (notFace_of_selects (args := #[]) (mvT hZ (hw _ (List.mem_of_getElem? (i := 54) rfl)))) (mvT hZ (hw _ (List.mem_of_getElem? (i := 54) rfl))) (mvT hZ (hw _ (List.mem_of_getElem? (i := 53) rfl))) (by decide) (backOf (W := 0) (rm4 l Z a0 hw [] r40 x40 (1 : Int32) [(.int (p1.toInt8.toInt32))] w_IN_PROGRESS w_CLAIMED h66 n0 Z75 OLD75 S_CLAIMED f70 f71 f72 f73 (by decide) (Fld.ne F_ordinal_IN_PROGRESS F_ordinal_CLAIMED (by simp))) hZ (hw _ (List.mem_of_getElem? (i := 55) rfl)) (hw _ (List.mem_of_getElem? (i := 4) rfl)) (by decide) (by decide)) q77a q77c (g := (mkF m 233 #[.val (.int p0), .val (.int p1), .val (.int (1 : Int32)), .val (.int (p1.toInt8.toInt32)), .val (.int (((p1.toUInt32 >>> ((8 : Int32) &&& 31).toUInt32).toInt32).toInt8.toInt32)), .val (.int (((p1.toUInt32 >>> ((16 : Int32) &&& 31).toUInt32).toInt32).toInt8.toInt32)), .val (.int (((p1.toUInt32 >>> ((24 : Int32) &&& 31).toUInt32).toInt32).toInt8.toInt32)), .val (.ref b35), .val (.ref r40), .val (.ref r55), .unset] [(.ref r40)])) rfl (by rw [hml]; rfl) (Steps.refl _) (argsL := []) (rest := []) (lenOf pd____B rfl) rfl (by show 2 * 0 + _ ≤ _; exact Nat.le_of_eq rfl) (hb hby at_233) (fun _ _ => ⟨rfl, e66, (by decide : 6 + 1 ≤ _), (by decide : 137 + 4 ≤ _)⟩)
  dsimp only [Pt.U, Pt.locs, Pt.cells, Pt.slots] at X77 l77 y77 z77 st77 hQ77
  subst l77 y77 z77
  obtain ⟨r77, rfl, Sq77, N77q, Kq77, Vq77, Eq77⟩ := hQ77
  have N77 := Fr.app N75 N77q
  have ne_b35_r77 : b35 ≠ r77 := Nat.ne_of_lt (Nat.lt_of_lt_of_le (f67).lt Sq77)
  have ne_r40_r77 : r40 ≠ r77 := Nat.ne_of_lt (Nat.lt_of_lt_of_le (f69).lt Sq77)
  have ne_x40_r77 : x40 ≠ r77 := Nat.ne_of_lt (Nat.lt_of_lt_of_le (f72).lt Sq77)
  have ne_r55_r77 : r55 ≠ r77 := Nat.ne_of_lt (Nat.lt_of_lt_of_le (V66).lt Sq77)
  have q_r77 : n0 ≤ r77 := Nat.le_trans Z75 Sq77
  have sz_r77 : h0.size ≤ r77 := Nat.le_trans K75.1 Sq77
  have f78 := f67.keep Kq77 nin0
  have f79 := f68.keep Kq77
  have f80 := f69.keep Kq77
  have f81 := f70.keep Kq77 nin0
  have f82 := f71.keep Kq77 nin0
  have f83 := f72.keep Kq77 nin0
  have f84 := f73.keep Kq77
  have f85 := V66.keep Kq77 nin0
  have f86 := f74.keep Kq77
  have OLD87 := OLD75.keep Kq77 all0
  have K87 := K75.trans Kq77 all0
  have Z87 := Nat.le_trans Z75 Kq77.1
  have hk88 := Nat.le_trans hk76 Kq77.1
  refine ogoW (fun t k => st77.trans k) ?_
  show OwnEndsW _ _ _ _ _ _ _ (T77.setTop (mkF m 236 #[.val (.int p0), .val (.int p1), .val (.int (1 : Int32)), .val (.int (p1.toInt8.toInt32)), .val (.int (((p1.toUInt32 >>> ((8 : Int32) &&& 31).toUInt32).toInt32).toInt8.toInt32)), .val (.int (((p1.toUInt32 >>> ((16 : Int32) &&& 31).toUInt32).toInt32).toInt8.toInt32)), .val (.int (((p1.toUInt32 >>> ((24 : Int32) &&& 31).toUInt32).toInt32).toInt8.toInt32)), .val (.ref b35), .val (.ref r40), .val (.ref r55), .unset] [(.ref r77)]))
  refine ogoW (fun t k => XS.astore X77.here hx rfl (hb hby at_236) rfl rfl (l' := #[.val (.int p0), .val (.int p1), .val (.int (1 : Int32)), .val (.int (p1.toInt8.toInt32)), .val (.int (((p1.toUInt32 >>> ((8 : Int32) &&& 31).toUInt32).toInt32).toInt8.toInt32)), .val (.int (((p1.toUInt32 >>> ((16 : Int32) &&& 31).toUInt32).toInt32).toInt8.toInt32)), .val (.int (((p1.toUInt32 >>> ((24 : Int32) &&& 31).toUInt32).toInt32).toInt8.toInt32)), .val (.ref b35), .val (.ref r40), .val (.ref r55), .val (.ref r77)]) rfl k) ?_
  show OwnEndsW _ _ _ _ _ _ _ (T77.setTop (mkF m 238 #[.val (.int p0), .val (.int p1), .val (.int (1 : Int32)), .val (.int (p1.toInt8.toInt32)), .val (.int (((p1.toUInt32 >>> ((8 : Int32) &&& 31).toUInt32).toInt32).toInt8.toInt32)), .val (.int (((p1.toUInt32 >>> ((16 : Int32) &&& 31).toUInt32).toInt32).toInt8.toInt32)), .val (.int (((p1.toUInt32 >>> ((24 : Int32) &&& 31).toUInt32).toInt32).toInt8.toInt32)), .val (.ref b35), .val (.ref r40), .val (.ref r55), .val (.ref r77)] []))
  refine ogoW (fun t k => XS.aload X77.here hx rfl (hb hby at_238) rfl rfl k) ?_
  show OwnEndsW _ _ _ _ _ _ _ (T77.setTop (mkF m 240 #[.val (.int p0), .val (.int p1), .val (.int (1 : Int32)), .val (.int (p1.toInt8.toInt32)), .val (.int (((p1.toUInt32 >>> ((8 : Int32) &&& 31).toUInt32).toInt32).toInt8.toInt32)), .val (.int (((p1.toUInt32 >>> ((16 : Int32) &&& 31).toUInt32).toInt32).toInt8.toInt32)), .val (.int (((p1.toUInt32 >>> ((24 : Int32) &&& 31).toUInt32).toInt32).toInt8.toInt32)), .val (.ref b35), .val (.ref r40), .val (.ref r55), .val (.ref r77)] [(.ref r77)]))
  refine ogoW (fun t k => XS.iloadN X77.here hx rfl (hb hby at_240) rfl k) ?_
  show OwnEndsW _ _ _ _ _ _ _ (T77.setTop (mkF m 241 #[.val (.int p0), .val (.int p1), .val (.int (1 : Int32)), .val (.int (p1.toInt8.toInt32)), .val (.int (((p1.toUInt32 >>> ((8 : Int32) &&& 31).toUInt32).toInt32).toInt8.toInt32)), .val (.int (((p1.toUInt32 >>> ((16 : Int32) &&& 31).toUInt32).toInt32).toInt8.toInt32)), .val (.int (((p1.toUInt32 >>> ((24 : Int32) &&& 31).toUInt32).toInt32).toInt8.toInt32)), .val (.ref b35), .val (.ref r40), .val (.ref r55), .val (.ref r77)] [(.int (1 : Int32)), (.ref r77)]))
  refine ogoW (fun t k => XS.iloadN X77.here hx rfl (hb hby at_241) rfl k) ?_
  show OwnEndsW _ _ _ _ _ _ _ (T77.setTop (mkF m 242 #[.val (.int p0), .val (.int p1), .val (.int (1 : Int32)), .val (.int (p1.toInt8.toInt32)), .val (.int (((p1.toUInt32 >>> ((8 : Int32) &&& 31).toUInt32).toInt32).toInt8.toInt32)), .val (.int (((p1.toUInt32 >>> ((16 : Int32) &&& 31).toUInt32).toInt32).toInt8.toInt32)), .val (.int (((p1.toUInt32 >>> ((24 : Int32) &&& 31).toUInt32).toInt32).toInt8.toInt32)), .val (.ref b35), .val (.ref r40), .val (.ref r55), .val (.ref r77)] [(.int (p1.toInt8.toInt32)), (.int (1 : Int32)), (.ref r77)]))
  refine ogoW (fun t k => XS.iload X77.here hx rfl (hb hby at_242) rfl k) ?_
  show OwnEndsW _ _ _ _ _ _ _ (T77.setTop (mkF m 244 #[.val (.int p0), .val (.int p1), .val (.int (1 : Int32)), .val (.int (p1.toInt8.toInt32)), .val (.int (((p1.toUInt32 >>> ((8 : Int32) &&& 31).toUInt32).toInt32).toInt8.toInt32)), .val (.int (((p1.toUInt32 >>> ((16 : Int32) &&& 31).toUInt32).toInt32).toInt8.toInt32)), .val (.int (((p1.toUInt32 >>> ((24 : Int32) &&& 31).toUInt32).toInt32).toInt8.toInt32)), .val (.ref b35), .val (.ref r40), .val (.ref r55), .val (.ref r77)] [(.int (((p1.toUInt32 >>> ((8 : Int32) &&& 31).toUInt32).toInt32).toInt8.toInt32)), (.int (p1.toInt8.toInt32)), (.int (1 : Int32)), (.ref r77)]))
  refine ogoW (fun t k => XS.iload X77.here hx rfl (hb hby at_244) rfl k) ?_
  show OwnEndsW _ _ _ _ _ _ _ (T77.setTop (mkF m 246 #[.val (.int p0), .val (.int p1), .val (.int (1 : Int32)), .val (.int (p1.toInt8.toInt32)), .val (.int (((p1.toUInt32 >>> ((8 : Int32) &&& 31).toUInt32).toInt32).toInt8.toInt32)), .val (.int (((p1.toUInt32 >>> ((16 : Int32) &&& 31).toUInt32).toInt32).toInt8.toInt32)), .val (.int (((p1.toUInt32 >>> ((24 : Int32) &&& 31).toUInt32).toInt32).toInt8.toInt32)), .val (.ref b35), .val (.ref r40), .val (.ref r55), .val (.ref r77)] [(.int (((p1.toUInt32 >>> ((16 : Int32) &&& 31).toUInt32).toInt32).toInt8.toInt32)), (.int (((p1.toUInt32 >>> ((8 : Int32) &&& 31).toUInt32).toInt32).toInt8.toInt32)), (.int (p1.toInt8.toInt32)), (.int (1 : Int32)), (.ref r77)]))
  refine ogoW (fun t k => XS.iload X77.here hx rfl (hb hby at_246) rfl k) ?_
  show OwnEndsW _ _ _ _ _ _ _ (T77.setTop (mkF m 248 #[.val (.int p0), .val (.int p1), .val (.int (1 : Int32)), .val (.int (p1.toInt8.toInt32)), .val (.int (((p1.toUInt32 >>> ((8 : Int32) &&& 31).toUInt32).toInt32).toInt8.toInt32)), .val (.int (((p1.toUInt32 >>> ((16 : Int32) &&& 31).toUInt32).toInt32).toInt8.toInt32)), .val (.int (((p1.toUInt32 >>> ((24 : Int32) &&& 31).toUInt32).toInt32).toInt8.toInt32)), .val (.ref b35), .val (.ref r40), .val (.ref r55), .val (.ref r77)] [(.int (((p1.toUInt32 >>> ((24 : Int32) &&& 31).toUInt32).toInt32).toInt8.toInt32)), (.int (((p1.toUInt32 >>> ((16 : Int32) &&& 31).toUInt32).toInt32).toInt8.toInt32)), (.int (((p1.toUInt32 >>> ((8 : Int32) &&& 31).toUInt32).toInt32).toInt8.toInt32)), (.int (p1.toInt8.toInt32)), (.int (1 : Int32)), (.ref r77)]))
  obtain ⟨v89, _, ⟨T89, L89, k89, n89⟩, -, X89, ⟨Lc89, hQ89, l89, y89, z89⟩, st89⟩ := Jvm.LawKit.callS X77 hx (y := (⟨"com/example/once_guard/onceguard/ClaimResultInProgressPinLaw", "same", "([BIBBBB)Z"⟩ : MethodName)) hown (mvT hZ (hw _ (List.mem_of_getElem? (i := 58) rfl))) (mvT hZ (hw _ (List.mem_of_getElem? (i := 59) rfl))) (mvT hZ (hw _ (List.mem_of_getElem? (i := 60) rfl))) (mvT hZ (hw _ (List.mem_of_getElem? (i := 61) rfl))) (by decide) (backOf (W := 0) (rm61 l Z a0 hw [] r77 (p1.toInt8.toInt32) (((p1.toUInt32 >>> ((8 : Int32) &&& 31).toUInt32).toInt32).toInt8.toInt32) (((p1.toUInt32 >>> ((16 : Int32) &&& 31).toUInt32).toInt32).toInt8.toInt32) (((p1.toUInt32 >>> ((24 : Int32) &&& 31).toUInt32).toInt32).toInt8.toInt32) T77.heap n0 Z87 Vq77) hZ (hw _ (List.mem_of_getElem? (i := 61) rfl)) (hw _ (List.mem_of_getElem? (i := 60) rfl)) (by decide) (by decide)) (g := (mkF m 248 #[.val (.int p0), .val (.int p1), .val (.int (1 : Int32)), .val (.int (p1.toInt8.toInt32)), .val (.int (((p1.toUInt32 >>> ((8 : Int32) &&& 31).toUInt32).toInt32).toInt8.toInt32)), .val (.int (((p1.toUInt32 >>> ((16 : Int32) &&& 31).toUInt32).toInt32).toInt8.toInt32)), .val (.int (((p1.toUInt32 >>> ((24 : Int32) &&& 31).toUInt32).toInt32).toInt8.toInt32)), .val (.ref b35), .val (.ref r40), .val (.ref r55), .val (.ref r77)] [(.int (((p1.toUInt32 >>> ((24 : Int32) &&& 31).toUInt32).toInt32).toInt8.toInt32)), (.int (((p1.toUInt32 >>> ((16 : Int32) &&& 31).toUInt32).toInt32).toInt8.toInt32)), (.int (((p1.toUInt32 >>> ((8 : Int32) &&& 31).toUInt32).toInt32).toInt8.toInt32)), (.int (p1.toInt8.toInt32)), (.int (1 : Int32)), (.ref r77)])) rfl (by rw [hml]; rfl) (argsL := [(.ref r77), (.int (1 : Int32)), (.int (p1.toInt8.toInt32)), (.int (((p1.toUInt32 >>> ((8 : Int32) &&& 31).toUInt32).toInt32).toInt8.toInt32)), (.int (((p1.toUInt32 >>> ((16 : Int32) &&& 31).toUInt32).toInt32).toInt8.toInt32)), (.int (((p1.toUInt32 >>> ((24 : Int32) &&& 31).toUInt32).toInt32).toInt8.toInt32))]) (rest := []) (lenOf pd___BIBBBB_Z rfl) rfl (by show 2 * 0 + _ ≤ _; exact Nat.le_of_eq rfl) (hb hby at_248) (fun _ _ => ⟨rfl, rfl, (by decide : 7 + 0 ≤ _), (by decide : 141 + 0 ≤ _)⟩)
  dsimp only [Pt.U, Pt.locs, Pt.cells, Pt.slots] at X89 l89 y89 z89 st89 hQ89
  subst l89 y89 z89
  obtain ⟨rfl, N89q, e89⟩ := hQ89
  have N89 := Fr.app N77 N89q
  refine ogoW (fun t k => st89 t k) ?_
  show OwnEndsW _ _ _ _ _ _ _ (T89.setTop (mkF m 251 #[.val (.int p0), .val (.int p1), .val (.int (1 : Int32)), .val (.int (p1.toInt8.toInt32)), .val (.int (((p1.toUInt32 >>> ((8 : Int32) &&& 31).toUInt32).toInt32).toInt8.toInt32)), .val (.int (((p1.toUInt32 >>> ((16 : Int32) &&& 31).toUInt32).toInt32).toInt8.toInt32)), .val (.int (((p1.toUInt32 >>> ((24 : Int32) &&& 31).toUInt32).toInt32).toInt8.toInt32)), .val (.ref b35), .val (.ref r40), .val (.ref r55), .val (.ref r77)] [(.int (1 : Int32))]))
  refine endZW X89 hS40 (by rw [e89]; exact hk88) hx hlk hret rfl (hb hby at_251) (by decide) (by decide) ?_
  show Q0 Z p0 p1 w_IN_PROGRESS w_CLAIMED h0 n0 _ T89.heap _
  rw [e89]
  exact ⟨rfl, N89⟩
set_option maxRecDepth 65536 in
set_option maxHeartbeats 40000000 in
theorem tn0_k2 {p : Program} {l : Launch} {e : Env} {s : State} {m : MethodId} {args : Array Value} {below : List Frame} {meth : Method} {c : Code} {locs : List Loc} (Z : State) (a0 : Array Value) (hw : ∀ d ∈ tables_1, d.before a0 Z = true) (p0 p1 : Int32) (w_IN_PROGRESS w_CLAIMED : Addr) (h0 : Heap) (n0 : Nat) (OLD : Old Z n0 h0) (S_IN_PROGRESS : Sta Z Z.heap "com/example/once_guard/onceguard/ClaimResult$State" "IN_PROGRESS" "Lcom/example/once_guard/onceguard/ClaimResult$State;" (.ref w_IN_PROGRESS)) (E_IN_PROGRESS : Exa Z Z.heap w_IN_PROGRESS "com/example/once_guard/onceguard/ClaimResult$State") (F_ordinal_IN_PROGRESS : Fld Z Z.heap w_IN_PROGRESS "java/lang/Enum" "ordinal" "I" (.int (1 : Int32))) (S_CLAIMED : Sta Z Z.heap "com/example/once_guard/onceguard/ClaimResult$State" "CLAIMED" "Lcom/example/once_guard/onceguard/ClaimResult$State;" (.ref w_CLAIMED)) (E_CLAIMED : Exa Z Z.heap w_CLAIMED "com/example/once_guard/onceguard/ClaimResult$State") (F_ordinal_CLAIMED : Fld Z Z.heap w_CLAIMED "java/lang/Enum" "ordinal" "I" (.int (0 : Int32))) (s₁ : State) (hx : p.tables.exec = Jvm.exec) (hZ : Z.Warmed39 (s.setVm s.vm).vm) (hby : c.code = code) (hml : c.maxLocals = 11) (hown : (s.setVm s.vm).vm.findClass "com/example/once_guard/onceguard/ClaimResultInProgressPinLaw" = some m.cls) (hnm : meth.name = "law") (hlk : meth.locks = false) (hret : meth.sig.returnType = some .boolean) (X0 : Stand p l e room_1 (s.setVm s.vm) m args below meth c s₁ locs 0 0) (e0 : s₁.heap = h0) (N0 : Fr n0 locs) (cKC90 : Keep h0 h0 []) (Z0 : n0 ≤ h0.size) (hS0 : s.Since s.vm 0) :
    OwnEndsW p.tables e below s 24 1152 (Q0 Z p0 p1 w_IN_PROGRESS w_CLAIMED h0 n0) (s₁.setTop (mkF m 6 #[.val (.int p0), .val (.int p1), .unset, .unset, .unset, .unset, .unset, .unset, .unset, .unset, .unset] [(.int (2 : Int32))])) := by
  show OwnEndsW _ _ _ _ _ _ _ (s₁.setTop (mkF m 6 #[.val (.int p0), .val (.int p1), .unset, .unset, .unset, .unset, .unset, .unset, .unset, .unset, .unset] [(.int (2 : Int32))]))
  refine ogoW (fun t k => XS.istoreN X0.here hx rfl (hb hby at_6) rfl (l' := #[.val (.int p0), .val (.int p1), .val (.int (2 : Int32)), .unset, .unset, .unset, .unset, .unset, .unset, .unset, .unset]) rfl k) ?_
  show OwnEndsW _ _ _ _ _ _ _ (s₁.setTop (mkF m 7 #[.val (.int p0), .val (.int p1), .val (.int (2 : Int32)), .unset, .unset, .unset, .unset, .unset, .unset, .unset, .unset] []))
  refine ogoW (fun t k => XS.iloadN X0.here hx rfl (hb hby at_7) rfl k) ?_
  show OwnEndsW _ _ _ _ _ _ _ (s₁.setTop (mkF m 8 #[.val (.int p0), .val (.int p1), .val (.int (2 : Int32)), .unset, .unset, .unset, .unset, .unset, .unset, .unset, .unset] [(.int p1)]))
  refine ogoW (fun t k => XS.i2b X0.here hx rfl (hb hby at_8) rfl k) ?_
  show OwnEndsW _ _ _ _ _ _ _ (s₁.setTop (mkF m 9 #[.val (.int p0), .val (.int p1), .val (.int (2 : Int32)), .unset, .unset, .unset, .unset, .unset, .unset, .unset, .unset] [(.int (p1.toInt8.toInt32))]))
  refine ogoW (fun t k => XS.istoreN X0.here hx rfl (hb hby at_9) rfl (l' := #[.val (.int p0), .val (.int p1), .val (.int (2 : Int32)), .val (.int (p1.toInt8.toInt32)), .unset, .unset, .unset, .unset, .unset, .unset, .unset]) rfl k) ?_
  show OwnEndsW _ _ _ _ _ _ _ (s₁.setTop (mkF m 10 #[.val (.int p0), .val (.int p1), .val (.int (2 : Int32)), .val (.int (p1.toInt8.toInt32)), .unset, .unset, .unset, .unset, .unset, .unset, .unset] []))
  refine ogoW (fun t k => XS.iloadN X0.here hx rfl (hb hby at_10) rfl k) ?_
  show OwnEndsW _ _ _ _ _ _ _ (s₁.setTop (mkF m 11 #[.val (.int p0), .val (.int p1), .val (.int (2 : Int32)), .val (.int (p1.toInt8.toInt32)), .unset, .unset, .unset, .unset, .unset, .unset, .unset] [(.int p1)]))
  refine ogoW (fun t k => XS.bipush X0.here hx rfl (hb hby at_11) k) ?_
  show OwnEndsW _ _ _ _ _ _ _ (s₁.setTop (mkF m 13 #[.val (.int p0), .val (.int p1), .val (.int (2 : Int32)), .val (.int (p1.toInt8.toInt32)), .unset, .unset, .unset, .unset, .unset, .unset, .unset] [(.int (8 : Int32)), (.int p1)]))
  refine ogoW (fun t k => XS.iushr X0.here hx rfl (hb hby at_13) rfl k) ?_
  show OwnEndsW _ _ _ _ _ _ _ (s₁.setTop (mkF m 14 #[.val (.int p0), .val (.int p1), .val (.int (2 : Int32)), .val (.int (p1.toInt8.toInt32)), .unset, .unset, .unset, .unset, .unset, .unset, .unset] [(.int ((p1.toUInt32 >>> ((8 : Int32) &&& 31).toUInt32).toInt32))]))
  refine ogoW (fun t k => XS.i2b X0.here hx rfl (hb hby at_14) rfl k) ?_
  show OwnEndsW _ _ _ _ _ _ _ (s₁.setTop (mkF m 15 #[.val (.int p0), .val (.int p1), .val (.int (2 : Int32)), .val (.int (p1.toInt8.toInt32)), .unset, .unset, .unset, .unset, .unset, .unset, .unset] [(.int (((p1.toUInt32 >>> ((8 : Int32) &&& 31).toUInt32).toInt32).toInt8.toInt32))]))
  refine ogoW (fun t k => XS.istore X0.here hx rfl (hb hby at_15) rfl (l' := #[.val (.int p0), .val (.int p1), .val (.int (2 : Int32)), .val (.int (p1.toInt8.toInt32)), .val (.int (((p1.toUInt32 >>> ((8 : Int32) &&& 31).toUInt32).toInt32).toInt8.toInt32)), .unset, .unset, .unset, .unset, .unset, .unset]) rfl k) ?_
  show OwnEndsW _ _ _ _ _ _ _ (s₁.setTop (mkF m 17 #[.val (.int p0), .val (.int p1), .val (.int (2 : Int32)), .val (.int (p1.toInt8.toInt32)), .val (.int (((p1.toUInt32 >>> ((8 : Int32) &&& 31).toUInt32).toInt32).toInt8.toInt32)), .unset, .unset, .unset, .unset, .unset, .unset] []))
  refine ogoW (fun t k => XS.iloadN X0.here hx rfl (hb hby at_17) rfl k) ?_
  show OwnEndsW _ _ _ _ _ _ _ (s₁.setTop (mkF m 18 #[.val (.int p0), .val (.int p1), .val (.int (2 : Int32)), .val (.int (p1.toInt8.toInt32)), .val (.int (((p1.toUInt32 >>> ((8 : Int32) &&& 31).toUInt32).toInt32).toInt8.toInt32)), .unset, .unset, .unset, .unset, .unset, .unset] [(.int p1)]))
  refine ogoW (fun t k => XS.bipush X0.here hx rfl (hb hby at_18) k) ?_
  show OwnEndsW _ _ _ _ _ _ _ (s₁.setTop (mkF m 20 #[.val (.int p0), .val (.int p1), .val (.int (2 : Int32)), .val (.int (p1.toInt8.toInt32)), .val (.int (((p1.toUInt32 >>> ((8 : Int32) &&& 31).toUInt32).toInt32).toInt8.toInt32)), .unset, .unset, .unset, .unset, .unset, .unset] [(.int (16 : Int32)), (.int p1)]))
  refine ogoW (fun t k => XS.iushr X0.here hx rfl (hb hby at_20) rfl k) ?_
  show OwnEndsW _ _ _ _ _ _ _ (s₁.setTop (mkF m 21 #[.val (.int p0), .val (.int p1), .val (.int (2 : Int32)), .val (.int (p1.toInt8.toInt32)), .val (.int (((p1.toUInt32 >>> ((8 : Int32) &&& 31).toUInt32).toInt32).toInt8.toInt32)), .unset, .unset, .unset, .unset, .unset, .unset] [(.int ((p1.toUInt32 >>> ((16 : Int32) &&& 31).toUInt32).toInt32))]))
  refine ogoW (fun t k => XS.i2b X0.here hx rfl (hb hby at_21) rfl k) ?_
  show OwnEndsW _ _ _ _ _ _ _ (s₁.setTop (mkF m 22 #[.val (.int p0), .val (.int p1), .val (.int (2 : Int32)), .val (.int (p1.toInt8.toInt32)), .val (.int (((p1.toUInt32 >>> ((8 : Int32) &&& 31).toUInt32).toInt32).toInt8.toInt32)), .unset, .unset, .unset, .unset, .unset, .unset] [(.int (((p1.toUInt32 >>> ((16 : Int32) &&& 31).toUInt32).toInt32).toInt8.toInt32))]))
  refine ogoW (fun t k => XS.istore X0.here hx rfl (hb hby at_22) rfl (l' := #[.val (.int p0), .val (.int p1), .val (.int (2 : Int32)), .val (.int (p1.toInt8.toInt32)), .val (.int (((p1.toUInt32 >>> ((8 : Int32) &&& 31).toUInt32).toInt32).toInt8.toInt32)), .val (.int (((p1.toUInt32 >>> ((16 : Int32) &&& 31).toUInt32).toInt32).toInt8.toInt32)), .unset, .unset, .unset, .unset, .unset]) rfl k) ?_
  show OwnEndsW _ _ _ _ _ _ _ (s₁.setTop (mkF m 24 #[.val (.int p0), .val (.int p1), .val (.int (2 : Int32)), .val (.int (p1.toInt8.toInt32)), .val (.int (((p1.toUInt32 >>> ((8 : Int32) &&& 31).toUInt32).toInt32).toInt8.toInt32)), .val (.int (((p1.toUInt32 >>> ((16 : Int32) &&& 31).toUInt32).toInt32).toInt8.toInt32)), .unset, .unset, .unset, .unset, .unset] []))
  refine ogoW (fun t k => XS.iloadN X0.here hx rfl (hb hby at_24) rfl k) ?_
  show OwnEndsW _ _ _ _ _ _ _ (s₁.setTop (mkF m 25 #[.val (.int p0), .val (.int p1), .val (.int (2 : Int32)), .val (.int (p1.toInt8.toInt32)), .val (.int (((p1.toUInt32 >>> ((8 : Int32) &&& 31).toUInt32).toInt32).toInt8.toInt32)), .val (.int (((p1.toUInt32 >>> ((16 : Int32) &&& 31).toUInt32).toInt32).toInt8.toInt32)), .unset, .unset, .unset, .unset, .unset] [(.int p1)]))
  refine ogoW (fun t k => XS.bipush X0.here hx rfl (hb hby at_25) k) ?_
  show OwnEndsW _ _ _ _ _ _ _ (s₁.setTop (mkF m 27 #[.val (.int p0), .val (.int p1), .val (.int (2 : Int32)), .val (.int (p1.toInt8.toInt32)), .val (.int (((p1.toUInt32 >>> ((8 : Int32) &&& 31).toUInt32).toInt32).toInt8.toInt32)), .val (.int (((p1.toUInt32 >>> ((16 : Int32) &&& 31).toUInt32).toInt32).toInt8.toInt32)), .unset, .unset, .unset, .unset, .unset] [(.int (24 : Int32)), (.int p1)]))
  refine ogoW (fun t k => XS.iushr X0.here hx rfl (hb hby at_27) rfl k) ?_
  show OwnEndsW _ _ _ _ _ _ _ (s₁.setTop (mkF m 28 #[.val (.int p0), .val (.int p1), .val (.int (2 : Int32)), .val (.int (p1.toInt8.toInt32)), .val (.int (((p1.toUInt32 >>> ((8 : Int32) &&& 31).toUInt32).toInt32).toInt8.toInt32)), .val (.int (((p1.toUInt32 >>> ((16 : Int32) &&& 31).toUInt32).toInt32).toInt8.toInt32)), .unset, .unset, .unset, .unset, .unset] [(.int ((p1.toUInt32 >>> ((24 : Int32) &&& 31).toUInt32).toInt32))]))
  refine ogoW (fun t k => XS.i2b X0.here hx rfl (hb hby at_28) rfl k) ?_
  show OwnEndsW _ _ _ _ _ _ _ (s₁.setTop (mkF m 29 #[.val (.int p0), .val (.int p1), .val (.int (2 : Int32)), .val (.int (p1.toInt8.toInt32)), .val (.int (((p1.toUInt32 >>> ((8 : Int32) &&& 31).toUInt32).toInt32).toInt8.toInt32)), .val (.int (((p1.toUInt32 >>> ((16 : Int32) &&& 31).toUInt32).toInt32).toInt8.toInt32)), .unset, .unset, .unset, .unset, .unset] [(.int (((p1.toUInt32 >>> ((24 : Int32) &&& 31).toUInt32).toInt32).toInt8.toInt32))]))
  refine ogoW (fun t k => XS.istore X0.here hx rfl (hb hby at_29) rfl (l' := #[.val (.int p0), .val (.int p1), .val (.int (2 : Int32)), .val (.int (p1.toInt8.toInt32)), .val (.int (((p1.toUInt32 >>> ((8 : Int32) &&& 31).toUInt32).toInt32).toInt8.toInt32)), .val (.int (((p1.toUInt32 >>> ((16 : Int32) &&& 31).toUInt32).toInt32).toInt8.toInt32)), .val (.int (((p1.toUInt32 >>> ((24 : Int32) &&& 31).toUInt32).toInt32).toInt8.toInt32)), .unset, .unset, .unset, .unset]) rfl k) ?_
  show OwnEndsW _ _ _ _ _ _ _ (s₁.setTop (mkF m 31 #[.val (.int p0), .val (.int p1), .val (.int (2 : Int32)), .val (.int (p1.toInt8.toInt32)), .val (.int (((p1.toUInt32 >>> ((8 : Int32) &&& 31).toUInt32).toInt32).toInt8.toInt32)), .val (.int (((p1.toUInt32 >>> ((16 : Int32) &&& 31).toUInt32).toInt32).toInt8.toInt32)), .val (.int (((p1.toUInt32 >>> ((24 : Int32) &&& 31).toUInt32).toInt32).toInt8.toInt32)), .unset, .unset, .unset, .unset] []))
  refine ogoW (fun t k => XS.iloadN X0.here hx rfl (hb hby at_31) rfl k) ?_
  show OwnEndsW _ _ _ _ _ _ _ (s₁.setTop (mkF m 32 #[.val (.int p0), .val (.int p1), .val (.int (2 : Int32)), .val (.int (p1.toInt8.toInt32)), .val (.int (((p1.toUInt32 >>> ((8 : Int32) &&& 31).toUInt32).toInt32).toInt8.toInt32)), .val (.int (((p1.toUInt32 >>> ((16 : Int32) &&& 31).toUInt32).toInt32).toInt8.toInt32)), .val (.int (((p1.toUInt32 >>> ((24 : Int32) &&& 31).toUInt32).toInt32).toInt8.toInt32)), .unset, .unset, .unset, .unset] [(.int (2 : Int32))]))
  obtain ⟨T91, h91, k91, X91, e91, E91, A91, B91, st91⟩ := newPE X0 hx hZ (hw _ (List.mem_of_getElem? (i := 1) rfl)) e0 (g := (mkF m 32 #[.val (.int p0), .val (.int p1), .val (.int (2 : Int32)), .val (.int (p1.toInt8.toInt32)), .val (.int (((p1.toUInt32 >>> ((8 : Int32) &&& 31).toUInt32).toInt32).toInt8.toInt32)), .val (.int (((p1.toUInt32 >>> ((16 : Int32) &&& 31).toUInt32).toInt32).toInt8.toInt32)), .val (.int (((p1.toUInt32 >>> ((24 : Int32) &&& 31).toUInt32).toInt32).toInt8.toInt32)), .unset, .unset, .unset, .unset] [(.int (2 : Int32))])) rfl (hb hby at_32) rfl (by decide) (cap := 2) (by decide) (by decide) (by decide) (by decide) (ad := "[B") (by decide)
  obtain ⟨b91, g91⟩ : ∃ z, z = h0.size := ⟨_, rfl⟩
  rw [← g91] at A91 B91 st91
  have q_b91 : n0 ≤ b91 := Nat.le_trans Z0 (Nat.le_of_eq g91.symm)
  have sz_b91 : h0.size ≤ b91 := Nat.le_trans cKC90.1 (Nat.le_of_eq g91.symm)
  have OLD92 := OLD.ext E91
  have K92 := cKC90.ext E91
  have Z92 := Nat.le_trans Z0 E91.1
  have V91 : Arv Z h91 b91 k91 .byte (2 : Int32) [(.int (0 : Int32)), (.int (0 : Int32))] (.int (0 : Int32)) := (Arv.new A91 (by decide)).pad (pad_rep [] (.int (0 : Int32)) 2)
  refine ogoW st91 ?_
  show OwnEndsW _ _ _ _ _ _ _ (T91.setTop (mkF m 34 #[.val (.int p0), .val (.int p1), .val (.int (2 : Int32)), .val (.int (p1.toInt8.toInt32)), .val (.int (((p1.toUInt32 >>> ((8 : Int32) &&& 31).toUInt32).toInt32).toInt8.toInt32)), .val (.int (((p1.toUInt32 >>> ((16 : Int32) &&& 31).toUInt32).toInt32).toInt8.toInt32)), .val (.int (((p1.toUInt32 >>> ((24 : Int32) &&& 31).toUInt32).toInt32).toInt8.toInt32)), .unset, .unset, .unset, .unset] [(.ref b91)]))
  refine ogoW (fun t k => XS.astore X91.here hx rfl (hb hby at_34) rfl rfl (l' := #[.val (.int p0), .val (.int p1), .val (.int (2 : Int32)), .val (.int (p1.toInt8.toInt32)), .val (.int (((p1.toUInt32 >>> ((8 : Int32) &&& 31).toUInt32).toInt32).toInt8.toInt32)), .val (.int (((p1.toUInt32 >>> ((16 : Int32) &&& 31).toUInt32).toInt32).toInt8.toInt32)), .val (.int (((p1.toUInt32 >>> ((24 : Int32) &&& 31).toUInt32).toInt32).toInt8.toInt32)), .val (.ref b91), .unset, .unset, .unset]) rfl k) ?_
  show OwnEndsW _ _ _ _ _ _ _ (T91.setTop (mkF m 36 #[.val (.int p0), .val (.int p1), .val (.int (2 : Int32)), .val (.int (p1.toInt8.toInt32)), .val (.int (((p1.toUInt32 >>> ((8 : Int32) &&& 31).toUInt32).toInt32).toInt8.toInt32)), .val (.int (((p1.toUInt32 >>> ((16 : Int32) &&& 31).toUInt32).toInt32).toInt8.toInt32)), .val (.int (((p1.toUInt32 >>> ((24 : Int32) &&& 31).toUInt32).toInt32).toInt8.toInt32)), .val (.ref b91), .unset, .unset, .unset] []))
  refine ogoW (fun t k => XS.iloadN X91.here hx rfl (hb hby at_36) rfl k) ?_
  show OwnEndsW _ _ _ _ _ _ _ (T91.setTop (mkF m 37 #[.val (.int p0), .val (.int p1), .val (.int (2 : Int32)), .val (.int (p1.toInt8.toInt32)), .val (.int (((p1.toUInt32 >>> ((8 : Int32) &&& 31).toUInt32).toInt32).toInt8.toInt32)), .val (.int (((p1.toUInt32 >>> ((16 : Int32) &&& 31).toUInt32).toInt32).toInt8.toInt32)), .val (.int (((p1.toUInt32 >>> ((24 : Int32) &&& 31).toUInt32).toInt32).toInt8.toInt32)), .val (.ref b91), .unset, .unset, .unset] [(.int (2 : Int32))]))
  refine ogoW (fun t k => XS.ifNo X91.here hx rfl (hb hby at_37) rfl ((if0 _ _).trans (tlt (by decide : (0 : Int32) < (2 : Int32))).2.2.2) k) ?_
  show OwnEndsW _ _ _ _ _ _ _ (T91.setTop (mkF m 40 #[.val (.int p0), .val (.int p1), .val (.int (2 : Int32)), .val (.int (p1.toInt8.toInt32)), .val (.int (((p1.toUInt32 >>> ((8 : Int32) &&& 31).toUInt32).toInt32).toInt8.toInt32)), .val (.int (((p1.toUInt32 >>> ((16 : Int32) &&& 31).toUInt32).toInt32).toInt8.toInt32)), .val (.int (((p1.toUInt32 >>> ((24 : Int32) &&& 31).toUInt32).toInt32).toInt8.toInt32)), .val (.ref b91), .unset, .unset, .unset] []))
  refine ogoW (fun t k => XS.aload X91.here hx rfl (hb hby at_40) rfl rfl k) ?_
  show OwnEndsW _ _ _ _ _ _ _ (T91.setTop (mkF m 42 #[.val (.int p0), .val (.int p1), .val (.int (2 : Int32)), .val (.int (p1.toInt8.toInt32)), .val (.int (((p1.toUInt32 >>> ((8 : Int32) &&& 31).toUInt32).toInt32).toInt8.toInt32)), .val (.int (((p1.toUInt32 >>> ((16 : Int32) &&& 31).toUInt32).toInt32).toInt8.toInt32)), .val (.int (((p1.toUInt32 >>> ((24 : Int32) &&& 31).toUInt32).toInt32).toInt8.toInt32)), .val (.ref b91), .unset, .unset, .unset] [(.ref b91)]))
  refine ogoW (fun t k => XS.iconst X91.here hx rfl (hb hby at_42) k) ?_
  show OwnEndsW _ _ _ _ _ _ _ (T91.setTop (mkF m 43 #[.val (.int p0), .val (.int p1), .val (.int (2 : Int32)), .val (.int (p1.toInt8.toInt32)), .val (.int (((p1.toUInt32 >>> ((8 : Int32) &&& 31).toUInt32).toInt32).toInt8.toInt32)), .val (.int (((p1.toUInt32 >>> ((16 : Int32) &&& 31).toUInt32).toInt32).toInt8.toInt32)), .val (.int (((p1.toUInt32 >>> ((24 : Int32) &&& 31).toUInt32).toInt32).toInt8.toInt32)), .val (.ref b91), .unset, .unset, .unset] [(.int (0 : Int32)), (.ref b91)]))
  refine ogoW (fun t k => XS.iloadN X91.here hx rfl (hb hby at_43) rfl k) ?_
  show OwnEndsW _ _ _ _ _ _ _ (T91.setTop (mkF m 44 #[.val (.int p0), .val (.int p1), .val (.int (2 : Int32)), .val (.int (p1.toInt8.toInt32)), .val (.int (((p1.toUInt32 >>> ((8 : Int32) &&& 31).toUInt32).toInt32).toInt8.toInt32)), .val (.int (((p1.toUInt32 >>> ((16 : Int32) &&& 31).toUInt32).toInt32).toInt8.toInt32)), .val (.int (((p1.toUInt32 >>> ((24 : Int32) &&& 31).toUInt32).toInt32).toInt8.toInt32)), .val (.ref b91), .unset, .unset, .unset] [(.int (p1.toInt8.toInt32)), (.int (0 : Int32)), (.ref b91)]))
  obtain ⟨cl93, Ar93, Aq93, As93, An93, Ah93, Ag93⟩ := id V91
  obtain ⟨T93, h93, X93, e93, W93, st93⟩ := stB X91 hx hZ e91 Ar93 (j := (0 : Int32)) (inb_of As93 ⟨by decide, by decide⟩) (g := (mkF m 44 #[.val (.int p0), .val (.int p1), .val (.int (2 : Int32)), .val (.int (p1.toInt8.toInt32)), .val (.int (((p1.toUInt32 >>> ((8 : Int32) &&& 31).toUInt32).toInt32).toInt8.toInt32)), .val (.int (((p1.toUInt32 >>> ((16 : Int32) &&& 31).toUInt32).toInt32).toInt8.toInt32)), .val (.int (((p1.toUInt32 >>> ((24 : Int32) &&& 31).toUInt32).toInt32).toInt8.toInt32)), .val (.ref b91), .unset, .unset, .unset] [(.int (p1.toInt8.toInt32)), (.int (0 : Int32)), (.ref b91)])) rfl rfl (hb hby at_44)
  rw [own_narb] at W93
  have V93 : Arv Z h93 b91 k91 .byte (2 : Int32) [(.int (p1.toInt8.toInt32)), (.int (0 : Int32))] (.int (0 : Int32)) := Arv.set Ar93 Aq93 As93 An93 Ah93 Ag93 (fits_nar_byte _) W93 0 rfl (Nat.le_of_ble_eq_true rfl)
  have f94 := B91.wr W93
  have N95 := Fr.snoc X93 N0 q_b91
  have OLD95 := OLD92.wr W93 q_b91
  have K95 := K92.wr W93 (Or.inr sz_b91)
  have Z95 := Nat.le_trans Z92 (Nat.le_of_eq W93.size.symm)
  refine ogoW st93 ?_
  show OwnEndsW _ _ _ _ _ _ _ (T93.setTop (mkF m 45 #[.val (.int p0), .val (.int p1), .val (.int (2 : Int32)), .val (.int (p1.toInt8.toInt32)), .val (.int (((p1.toUInt32 >>> ((8 : Int32) &&& 31).toUInt32).toInt32).toInt8.toInt32)), .val (.int (((p1.toUInt32 >>> ((16 : Int32) &&& 31).toUInt32).toInt32).toInt8.toInt32)), .val (.int (((p1.toUInt32 >>> ((24 : Int32) &&& 31).toUInt32).toInt32).toInt8.toInt32)), .val (.ref b91), .unset, .unset, .unset] []))
  refine ogoW (fun t k => XS.iloadN X93.here hx rfl (hb hby at_45) rfl k) ?_
  show OwnEndsW _ _ _ _ _ _ _ (T93.setTop (mkF m 46 #[.val (.int p0), .val (.int p1), .val (.int (2 : Int32)), .val (.int (p1.toInt8.toInt32)), .val (.int (((p1.toUInt32 >>> ((8 : Int32) &&& 31).toUInt32).toInt32).toInt8.toInt32)), .val (.int (((p1.toUInt32 >>> ((16 : Int32) &&& 31).toUInt32).toInt32).toInt8.toInt32)), .val (.int (((p1.toUInt32 >>> ((24 : Int32) &&& 31).toUInt32).toInt32).toInt8.toInt32)), .val (.ref b91), .unset, .unset, .unset] [(.int (2 : Int32))]))
  refine ogoW (fun t k => XS.iconst X93.here hx rfl (hb hby at_46) k) ?_
  show OwnEndsW _ _ _ _ _ _ _ (T93.setTop (mkF m 47 #[.val (.int p0), .val (.int p1), .val (.int (2 : Int32)), .val (.int (p1.toInt8.toInt32)), .val (.int (((p1.toUInt32 >>> ((8 : Int32) &&& 31).toUInt32).toInt32).toInt8.toInt32)), .val (.int (((p1.toUInt32 >>> ((16 : Int32) &&& 31).toUInt32).toInt32).toInt8.toInt32)), .val (.int (((p1.toUInt32 >>> ((24 : Int32) &&& 31).toUInt32).toInt32).toInt8.toInt32)), .val (.ref b91), .unset, .unset, .unset] [(.int (1 : Int32)), (.int (2 : Int32))]))
  refine ogoW (fun t k => XS.icmpNo X93.here hx rfl (hb hby at_47) rfl (tlt (by decide : (1 : Int32) < (2 : Int32))).2.2.2 k) ?_
  show OwnEndsW _ _ _ _ _ _ _ (T93.setTop (mkF m 50 #[.val (.int p0), .val (.int p1), .val (.int (2 : Int32)), .val (.int (p1.toInt8.toInt32)), .val (.int (((p1.toUInt32 >>> ((8 : Int32) &&& 31).toUInt32).toInt32).toInt8.toInt32)), .val (.int (((p1.toUInt32 >>> ((16 : Int32) &&& 31).toUInt32).toInt32).toInt8.toInt32)), .val (.int (((p1.toUInt32 >>> ((24 : Int32) &&& 31).toUInt32).toInt32).toInt8.toInt32)), .val (.ref b91), .unset, .unset, .unset] []))
  refine ogoW (fun t k => XS.aload X93.here hx rfl (hb hby at_50) rfl rfl k) ?_
  show OwnEndsW _ _ _ _ _ _ _ (T93.setTop (mkF m 52 #[.val (.int p0), .val (.int p1), .val (.int (2 : Int32)), .val (.int (p1.toInt8.toInt32)), .val (.int (((p1.toUInt32 >>> ((8 : Int32) &&& 31).toUInt32).toInt32).toInt8.toInt32)), .val (.int (((p1.toUInt32 >>> ((16 : Int32) &&& 31).toUInt32).toInt32).toInt8.toInt32)), .val (.int (((p1.toUInt32 >>> ((24 : Int32) &&& 31).toUInt32).toInt32).toInt8.toInt32)), .val (.ref b91), .unset, .unset, .unset] [(.ref b91)]))
  refine ogoW (fun t k => XS.iconst X93.here hx rfl (hb hby at_52) k) ?_
  show OwnEndsW _ _ _ _ _ _ _ (T93.setTop (mkF m 53 #[.val (.int p0), .val (.int p1), .val (.int (2 : Int32)), .val (.int (p1.toInt8.toInt32)), .val (.int (((p1.toUInt32 >>> ((8 : Int32) &&& 31).toUInt32).toInt32).toInt8.toInt32)), .val (.int (((p1.toUInt32 >>> ((16 : Int32) &&& 31).toUInt32).toInt32).toInt8.toInt32)), .val (.int (((p1.toUInt32 >>> ((24 : Int32) &&& 31).toUInt32).toInt32).toInt8.toInt32)), .val (.ref b91), .unset, .unset, .unset] [(.int (1 : Int32)), (.ref b91)]))
  refine ogoW (fun t k => XS.iload X93.here hx rfl (hb hby at_53) rfl k) ?_
  show OwnEndsW _ _ _ _ _ _ _ (T93.setTop (mkF m 55 #[.val (.int p0), .val (.int p1), .val (.int (2 : Int32)), .val (.int (p1.toInt8.toInt32)), .val (.int (((p1.toUInt32 >>> ((8 : Int32) &&& 31).toUInt32).toInt32).toInt8.toInt32)), .val (.int (((p1.toUInt32 >>> ((16 : Int32) &&& 31).toUInt32).toInt32).toInt8.toInt32)), .val (.int (((p1.toUInt32 >>> ((24 : Int32) &&& 31).toUInt32).toInt32).toInt8.toInt32)), .val (.ref b91), .unset, .unset, .unset] [(.int (((p1.toUInt32 >>> ((8 : Int32) &&& 31).toUInt32).toInt32).toInt8.toInt32)), (.int (1 : Int32)), (.ref b91)]))
  obtain ⟨cl96, Ar96, Aq96, As96, An96, Ah96, Ag96⟩ := id V93
  obtain ⟨T96, h96, X96, e96, W96, st96⟩ := stB X93 hx hZ e93 Ar96 (j := (1 : Int32)) (inb_of As96 ⟨by decide, by decide⟩) (g := (mkF m 55 #[.val (.int p0), .val (.int p1), .val (.int (2 : Int32)), .val (.int (p1.toInt8.toInt32)), .val (.int (((p1.toUInt32 >>> ((8 : Int32) &&& 31).toUInt32).toInt32).toInt8.toInt32)), .val (.int (((p1.toUInt32 >>> ((16 : Int32) &&& 31).toUInt32).toInt32).toInt8.toInt32)), .val (.int (((p1.toUInt32 >>> ((24 : Int32) &&& 31).toUInt32).toInt32).toInt8.toInt32)), .val (.ref b91), .unset, .unset, .unset] [(.int (((p1.toUInt32 >>> ((8 : Int32) &&& 31).toUInt32).toInt32).toInt8.toInt32)), (.int (1 : Int32)), (.ref b91)])) rfl rfl (hb hby at_55)
  rw [own_narb] at W96
  have V96 : Arv Z h96 b91 k91 .byte (2 : Int32) [(.int (p1.toInt8.toInt32)), (.int (((p1.toUInt32 >>> ((8 : Int32) &&& 31).toUInt32).toInt32).toInt8.toInt32))] (.int (0 : Int32)) := Arv.set Ar96 Aq96 As96 An96 Ah96 Ag96 (fits_nar_byte _) W96 1 rfl (Nat.le_of_ble_eq_true rfl)
  have f97 := f94.wr W96
  have N98 := Fr.snoc X96 N95 q_b91
  have OLD98 := OLD95.wr W96 q_b91
  have K98 := K95.wr W96 (Or.inr sz_b91)
  have Z98 := Nat.le_trans Z95 (Nat.le_of_eq W96.size.symm)
  refine ogoW st96 ?_
  show OwnEndsW _ _ _ _ _ _ _ (T96.setTop (mkF m 56 #[.val (.int p0), .val (.int p1), .val (.int (2 : Int32)), .val (.int (p1.toInt8.toInt32)), .val (.int (((p1.toUInt32 >>> ((8 : Int32) &&& 31).toUInt32).toInt32).toInt8.toInt32)), .val (.int (((p1.toUInt32 >>> ((16 : Int32) &&& 31).toUInt32).toInt32).toInt8.toInt32)), .val (.int (((p1.toUInt32 >>> ((24 : Int32) &&& 31).toUInt32).toInt32).toInt8.toInt32)), .val (.ref b91), .unset, .unset, .unset] []))
  refine ogoW (fun t k => XS.iloadN X96.here hx rfl (hb hby at_56) rfl k) ?_
  show OwnEndsW _ _ _ _ _ _ _ (T96.setTop (mkF m 57 #[.val (.int p0), .val (.int p1), .val (.int (2 : Int32)), .val (.int (p1.toInt8.toInt32)), .val (.int (((p1.toUInt32 >>> ((8 : Int32) &&& 31).toUInt32).toInt32).toInt8.toInt32)), .val (.int (((p1.toUInt32 >>> ((16 : Int32) &&& 31).toUInt32).toInt32).toInt8.toInt32)), .val (.int (((p1.toUInt32 >>> ((24 : Int32) &&& 31).toUInt32).toInt32).toInt8.toInt32)), .val (.ref b91), .unset, .unset, .unset] [(.int (2 : Int32))]))
  refine ogoW (fun t k => XS.iconst X96.here hx rfl (hb hby at_57) k) ?_
  show OwnEndsW _ _ _ _ _ _ _ (T96.setTop (mkF m 58 #[.val (.int p0), .val (.int p1), .val (.int (2 : Int32)), .val (.int (p1.toInt8.toInt32)), .val (.int (((p1.toUInt32 >>> ((8 : Int32) &&& 31).toUInt32).toInt32).toInt8.toInt32)), .val (.int (((p1.toUInt32 >>> ((16 : Int32) &&& 31).toUInt32).toInt32).toInt8.toInt32)), .val (.int (((p1.toUInt32 >>> ((24 : Int32) &&& 31).toUInt32).toInt32).toInt8.toInt32)), .val (.ref b91), .unset, .unset, .unset] [(.int (2 : Int32)), (.int (2 : Int32))]))
  refine ogoW (fun t k => XS.icmpYes X96.here hx rfl (pc0 := 58) (pc' := 67) rfl (hb hby at_58) rfl (flt (by decide : ¬ ((2 : Int32) < (2 : Int32)))).2.2.2 (by decide) (by decide) k) ?_
  show OwnEndsW _ _ _ _ _ _ _ (T96.setTop (mkF m 67 #[.val (.int p0), .val (.int p1), .val (.int (2 : Int32)), .val (.int (p1.toInt8.toInt32)), .val (.int (((p1.toUInt32 >>> ((8 : Int32) &&& 31).toUInt32).toInt32).toInt8.toInt32)), .val (.int (((p1.toUInt32 >>> ((16 : Int32) &&& 31).toUInt32).toInt32).toInt8.toInt32)), .val (.int (((p1.toUInt32 >>> ((24 : Int32) &&& 31).toUInt32).toInt32).toInt8.toInt32)), .val (.ref b91), .unset, .unset, .unset] []))
  refine ogoW (fun t k => XS.iloadN X96.here hx rfl (hb hby at_67) rfl k) ?_
  show OwnEndsW _ _ _ _ _ _ _ (T96.setTop (mkF m 68 #[.val (.int p0), .val (.int p1), .val (.int (2 : Int32)), .val (.int (p1.toInt8.toInt32)), .val (.int (((p1.toUInt32 >>> ((8 : Int32) &&& 31).toUInt32).toInt32).toInt8.toInt32)), .val (.int (((p1.toUInt32 >>> ((16 : Int32) &&& 31).toUInt32).toInt32).toInt8.toInt32)), .val (.int (((p1.toUInt32 >>> ((24 : Int32) &&& 31).toUInt32).toInt32).toInt8.toInt32)), .val (.ref b91), .unset, .unset, .unset] [(.int (2 : Int32))]))
  refine ogoW (fun t k => XS.iconst X96.here hx rfl (hb hby at_68) k) ?_
  show OwnEndsW _ _ _ _ _ _ _ (T96.setTop (mkF m 69 #[.val (.int p0), .val (.int p1), .val (.int (2 : Int32)), .val (.int (p1.toInt8.toInt32)), .val (.int (((p1.toUInt32 >>> ((8 : Int32) &&& 31).toUInt32).toInt32).toInt8.toInt32)), .val (.int (((p1.toUInt32 >>> ((16 : Int32) &&& 31).toUInt32).toInt32).toInt8.toInt32)), .val (.int (((p1.toUInt32 >>> ((24 : Int32) &&& 31).toUInt32).toInt32).toInt8.toInt32)), .val (.ref b91), .unset, .unset, .unset] [(.int (3 : Int32)), (.int (2 : Int32))]))
  refine ogoW (fun t k => XS.icmpYes X96.here hx rfl (pc0 := 69) (pc' := 78) rfl (hb hby at_69) rfl (flt (by decide : ¬ ((3 : Int32) < (2 : Int32)))).2.2.2 (by decide) (by decide) k) ?_
  show OwnEndsW _ _ _ _ _ _ _ (T96.setTop (mkF m 78 #[.val (.int p0), .val (.int p1), .val (.int (2 : Int32)), .val (.int (p1.toInt8.toInt32)), .val (.int (((p1.toUInt32 >>> ((8 : Int32) &&& 31).toUInt32).toInt32).toInt8.toInt32)), .val (.int (((p1.toUInt32 >>> ((16 : Int32) &&& 31).toUInt32).toInt32).toInt8.toInt32)), .val (.int (((p1.toUInt32 >>> ((24 : Int32) &&& 31).toUInt32).toInt32).toInt8.toInt32)), .val (.ref b91), .unset, .unset, .unset] []))
  refine ogoW (fun t k => XS.aload X96.here hx rfl (hb hby at_78) rfl rfl k) ?_
  show OwnEndsW _ _ _ _ _ _ _ (T96.setTop (mkF m 80 #[.val (.int p0), .val (.int p1), .val (.int (2 : Int32)), .val (.int (p1.toInt8.toInt32)), .val (.int (((p1.toUInt32 >>> ((8 : Int32) &&& 31).toUInt32).toInt32).toInt8.toInt32)), .val (.int (((p1.toUInt32 >>> ((16 : Int32) &&& 31).toUInt32).toInt32).toInt8.toInt32)), .val (.int (((p1.toUInt32 >>> ((24 : Int32) &&& 31).toUInt32).toInt32).toInt8.toInt32)), .val (.ref b91), .unset, .unset, .unset] [(.ref b91)]))
  obtain ⟨v99, _, ⟨T99, L99, k99, n99⟩, -, X99, hSq99, hgq99, ⟨Lc99, hQ99, l99, y99, z99⟩, st99⟩ := callSS X96 hx (y := (⟨"com/example/once_guard/onceguard/ClaimResult", "inProgress", "([B)Lcom/example/once_guard/onceguard/ClaimResult;"⟩ : MethodName)) hown (mvT hZ (hw _ (List.mem_of_getElem? (i := 2) rfl))) (mvT hZ (hw _ (List.mem_of_getElem? (i := 3) rfl))) (mvT hZ (hw _ (List.mem_of_getElem? (i := 4) rfl))) (mvT hZ (hw _ (List.mem_of_getElem? (i := 5) rfl))) (by decide) (backOfS (W := 0) (rm5 l Z a0 hw [] b91 (2 : Int32) [(.int (p1.toInt8.toInt32)), (.int (((p1.toUInt32 >>> ((8 : Int32) &&& 31).toUInt32).toInt32).toInt8.toInt32))] w_IN_PROGRESS h96 n0 Z98 OLD98 S_IN_PROGRESS ⟨_, V96⟩ f97 (by decide)) hZ (hw _ (List.mem_of_getElem? (i := 5) rfl)) (hw _ (List.mem_of_getElem? (i := 4) rfl)) (by decide) (by decide)) (g := (mkF m 80 #[.val (.int p0), .val (.int p1), .val (.int (2 : Int32)), .val (.int (p1.toInt8.toInt32)), .val (.int (((p1.toUInt32 >>> ((8 : Int32) &&& 31).toUInt32).toInt32).toInt8.toInt32)), .val (.int (((p1.toUInt32 >>> ((16 : Int32) &&& 31).toUInt32).toInt32).toInt8.toInt32)), .val (.int (((p1.toUInt32 >>> ((24 : Int32) &&& 31).toUInt32).toInt32).toInt8.toInt32)), .val (.ref b91), .unset, .unset, .unset] [(.ref b91)])) rfl (by rw [hml]; rfl) (argsL := [(.ref b91)]) (rest := []) (lenOf pd_f29d2ef6 rfl) rfl (by show 2 * 0 + _ ≤ _; exact Nat.le_of_eq rfl) (hb hby at_80) (fun _ _ => ⟨rfl, e96, (by decide : 1 + 4 ≤ _), (by decide : 2 + 132 ≤ _)⟩)
  dsimp only [Pt.U, Pt.locs, Pt.cells, Pt.slots] at X99 l99 y99 z99 st99 hQ99 hSq99 hgq99
  subst l99 y99 z99
  obtain ⟨X99, hS99, hZ, hown⟩ := rebS hS0 (by rw [e96]; exact (Nat.zero_le _)) X99 hSq99 hgq99 hZ hown
  obtain ⟨r99, x99, rfl, Sq99, Sp99, N99q, Kq99, Eq99, Fa99, Fb99, Vq99, Ec99⟩ := hQ99
  have N99 := Fr.app N98 N99q
  have ne_b91_r99 : b91 ≠ r99 := Nat.ne_of_lt (Nat.lt_of_lt_of_le (V96).lt Sq99)
  have q_r99 : n0 ≤ r99 := Nat.le_trans Z98 Sq99
  have sz_r99 : h0.size ≤ r99 := Nat.le_trans K98.1 Sq99
  have ne_b91_x99 : b91 ≠ x99 := Nat.ne_of_lt (Nat.lt_of_lt_of_le (V96).lt Sp99)
  have q_x99 : n0 ≤ x99 := Nat.le_trans Z98 Sp99
  have sz_x99 : h0.size ≤ x99 := Nat.le_trans K98.1 Sp99
  have f100 := V96.keep Kq99 nin0
  have f101 := f97.keep Kq99
  have OLD102 := OLD98.keep Kq99 all0
  have K102 := K98.trans Kq99 all0
  have Z102 := Nat.le_trans Z98 Kq99.1
  refine ogoW (fun t k => st99.trans k) ?_
  show OwnEndsW _ _ _ _ _ _ _ (T99.setTop (mkF m 83 #[.val (.int p0), .val (.int p1), .val (.int (2 : Int32)), .val (.int (p1.toInt8.toInt32)), .val (.int (((p1.toUInt32 >>> ((8 : Int32) &&& 31).toUInt32).toInt32).toInt8.toInt32)), .val (.int (((p1.toUInt32 >>> ((16 : Int32) &&& 31).toUInt32).toInt32).toInt8.toInt32)), .val (.int (((p1.toUInt32 >>> ((24 : Int32) &&& 31).toUInt32).toInt32).toInt8.toInt32)), .val (.ref b91), .unset, .unset, .unset] [(.ref r99)]))
  refine ogoW (fun t k => XS.astore X99.here hx rfl (hb hby at_83) rfl rfl (l' := #[.val (.int p0), .val (.int p1), .val (.int (2 : Int32)), .val (.int (p1.toInt8.toInt32)), .val (.int (((p1.toUInt32 >>> ((8 : Int32) &&& 31).toUInt32).toInt32).toInt8.toInt32)), .val (.int (((p1.toUInt32 >>> ((16 : Int32) &&& 31).toUInt32).toInt32).toInt8.toInt32)), .val (.int (((p1.toUInt32 >>> ((24 : Int32) &&& 31).toUInt32).toInt32).toInt8.toInt32)), .val (.ref b91), .val (.ref r99), .unset, .unset]) rfl k) ?_
  show OwnEndsW _ _ _ _ _ _ _ (T99.setTop (mkF m 85 #[.val (.int p0), .val (.int p1), .val (.int (2 : Int32)), .val (.int (p1.toInt8.toInt32)), .val (.int (((p1.toUInt32 >>> ((8 : Int32) &&& 31).toUInt32).toInt32).toInt8.toInt32)), .val (.int (((p1.toUInt32 >>> ((16 : Int32) &&& 31).toUInt32).toInt32).toInt8.toInt32)), .val (.int (((p1.toUInt32 >>> ((24 : Int32) &&& 31).toUInt32).toInt32).toInt8.toInt32)), .val (.ref b91), .val (.ref r99), .unset, .unset] []))
  refine ogoW (fun t k => XS.iloadN X99.here hx rfl (hb hby at_85) rfl k) ?_
  show OwnEndsW _ _ _ _ _ _ _ (T99.setTop (mkF m 86 #[.val (.int p0), .val (.int p1), .val (.int (2 : Int32)), .val (.int (p1.toInt8.toInt32)), .val (.int (((p1.toUInt32 >>> ((8 : Int32) &&& 31).toUInt32).toInt32).toInt8.toInt32)), .val (.int (((p1.toUInt32 >>> ((16 : Int32) &&& 31).toUInt32).toInt32).toInt8.toInt32)), .val (.int (((p1.toUInt32 >>> ((24 : Int32) &&& 31).toUInt32).toInt32).toInt8.toInt32)), .val (.ref b91), .val (.ref r99), .unset, .unset] [(.int (2 : Int32))]))
  refine ogoW (fun t k => XS.ifNo X99.here hx rfl (hb hby at_86) rfl ((if0 _ _).trans (tlt (by decide : (0 : Int32) < (2 : Int32))).2.2.2) k) ?_
  show OwnEndsW _ _ _ _ _ _ _ (T99.setTop (mkF m 89 #[.val (.int p0), .val (.int p1), .val (.int (2 : Int32)), .val (.int (p1.toInt8.toInt32)), .val (.int (((p1.toUInt32 >>> ((8 : Int32) &&& 31).toUInt32).toInt32).toInt8.toInt32)), .val (.int (((p1.toUInt32 >>> ((16 : Int32) &&& 31).toUInt32).toInt32).toInt8.toInt32)), .val (.int (((p1.toUInt32 >>> ((24 : Int32) &&& 31).toUInt32).toInt32).toInt8.toInt32)), .val (.ref b91), .val (.ref r99), .unset, .unset] []))
  refine ogoW (fun t k => XS.aload X99.here hx rfl (hb hby at_89) rfl rfl k) ?_
  show OwnEndsW _ _ _ _ _ _ _ (T99.setTop (mkF m 91 #[.val (.int p0), .val (.int p1), .val (.int (2 : Int32)), .val (.int (p1.toInt8.toInt32)), .val (.int (((p1.toUInt32 >>> ((8 : Int32) &&& 31).toUInt32).toInt32).toInt8.toInt32)), .val (.int (((p1.toUInt32 >>> ((16 : Int32) &&& 31).toUInt32).toInt32).toInt8.toInt32)), .val (.int (((p1.toUInt32 >>> ((24 : Int32) &&& 31).toUInt32).toInt32).toInt8.toInt32)), .val (.ref b91), .val (.ref r99), .unset, .unset] [(.ref b91)]))
  refine ogoW (fun t k => XS.iconst X99.here hx rfl (hb hby at_91) k) ?_
  show OwnEndsW _ _ _ _ _ _ _ (T99.setTop (mkF m 92 #[.val (.int p0), .val (.int p1), .val (.int (2 : Int32)), .val (.int (p1.toInt8.toInt32)), .val (.int (((p1.toUInt32 >>> ((8 : Int32) &&& 31).toUInt32).toInt32).toInt8.toInt32)), .val (.int (((p1.toUInt32 >>> ((16 : Int32) &&& 31).toUInt32).toInt32).toInt8.toInt32)), .val (.int (((p1.toUInt32 >>> ((24 : Int32) &&& 31).toUInt32).toInt32).toInt8.toInt32)), .val (.ref b91), .val (.ref r99), .unset, .unset] [(.int (0 : Int32)), (.ref b91)]))
  refine ogoW (fun t k => XS.iloadN X99.here hx rfl (hb hby at_92) rfl k) ?_
  show OwnEndsW _ _ _ _ _ _ _ (T99.setTop (mkF m 93 #[.val (.int p0), .val (.int p1), .val (.int (2 : Int32)), .val (.int (p1.toInt8.toInt32)), .val (.int (((p1.toUInt32 >>> ((8 : Int32) &&& 31).toUInt32).toInt32).toInt8.toInt32)), .val (.int (((p1.toUInt32 >>> ((16 : Int32) &&& 31).toUInt32).toInt32).toInt8.toInt32)), .val (.int (((p1.toUInt32 >>> ((24 : Int32) &&& 31).toUInt32).toInt32).toInt8.toInt32)), .val (.ref b91), .val (.ref r99), .unset, .unset] [(.int (p1.toInt8.toInt32)), (.int (0 : Int32)), (.ref b91)]))
  refine ogoW (fun t k => XS.iconst X99.here hx rfl (hb hby at_93) k) ?_
  show OwnEndsW _ _ _ _ _ _ _ (T99.setTop (mkF m 94 #[.val (.int p0), .val (.int p1), .val (.int (2 : Int32)), .val (.int (p1.toInt8.toInt32)), .val (.int (((p1.toUInt32 >>> ((8 : Int32) &&& 31).toUInt32).toInt32).toInt8.toInt32)), .val (.int (((p1.toUInt32 >>> ((16 : Int32) &&& 31).toUInt32).toInt32).toInt8.toInt32)), .val (.int (((p1.toUInt32 >>> ((24 : Int32) &&& 31).toUInt32).toInt32).toInt8.toInt32)), .val (.ref b91), .val (.ref r99), .unset, .unset] [(.int (-1 : Int32)), (.int (p1.toInt8.toInt32)), (.int (0 : Int32)), (.ref b91)]))
  refine ogoW (fun t k => XS.ixor X99.here hx rfl (hb hby at_94) rfl k) ?_
  show OwnEndsW _ _ _ _ _ _ _ (T99.setTop (mkF m 95 #[.val (.int p0), .val (.int p1), .val (.int (2 : Int32)), .val (.int (p1.toInt8.toInt32)), .val (.int (((p1.toUInt32 >>> ((8 : Int32) &&& 31).toUInt32).toInt32).toInt8.toInt32)), .val (.int (((p1.toUInt32 >>> ((16 : Int32) &&& 31).toUInt32).toInt32).toInt8.toInt32)), .val (.int (((p1.toUInt32 >>> ((24 : Int32) &&& 31).toUInt32).toInt32).toInt8.toInt32)), .val (.ref b91), .val (.ref r99), .unset, .unset] [(.int ((p1.toInt8.toInt32) ^^^ (-1 : Int32))), (.int (0 : Int32)), (.ref b91)]))
  refine ogoW (fun t k => XS.i2b X99.here hx rfl (hb hby at_95) rfl k) ?_
  show OwnEndsW _ _ _ _ _ _ _ (T99.setTop (mkF m 96 #[.val (.int p0), .val (.int p1), .val (.int (2 : Int32)), .val (.int (p1.toInt8.toInt32)), .val (.int (((p1.toUInt32 >>> ((8 : Int32) &&& 31).toUInt32).toInt32).toInt8.toInt32)), .val (.int (((p1.toUInt32 >>> ((16 : Int32) &&& 31).toUInt32).toInt32).toInt8.toInt32)), .val (.int (((p1.toUInt32 >>> ((24 : Int32) &&& 31).toUInt32).toInt32).toInt8.toInt32)), .val (.ref b91), .val (.ref r99), .unset, .unset] [(.int (((p1.toInt8.toInt32) ^^^ (-1 : Int32)).toInt8.toInt32)), (.int (0 : Int32)), (.ref b91)]))
  obtain ⟨cl103, Ar103, Aq103, As103, An103, Ah103, Ag103⟩ := id f100
  obtain ⟨T103, h103, X103, e103, W103, st103⟩ := stB X99 hx hZ rfl Ar103 (j := (0 : Int32)) (inb_of As103 ⟨by decide, by decide⟩) (g := (mkF m 96 #[.val (.int p0), .val (.int p1), .val (.int (2 : Int32)), .val (.int (p1.toInt8.toInt32)), .val (.int (((p1.toUInt32 >>> ((8 : Int32) &&& 31).toUInt32).toInt32).toInt8.toInt32)), .val (.int (((p1.toUInt32 >>> ((16 : Int32) &&& 31).toUInt32).toInt32).toInt8.toInt32)), .val (.int (((p1.toUInt32 >>> ((24 : Int32) &&& 31).toUInt32).toInt32).toInt8.toInt32)), .val (.ref b91), .val (.ref r99), .unset, .unset] [(.int (((p1.toInt8.toInt32) ^^^ (-1 : Int32)).toInt8.toInt32)), (.int (0 : Int32)), (.ref b91)])) rfl rfl (hb hby at_96)
  rw [own_narb] at W103
  have V103 : Arv Z h103 b91 k91 .byte (2 : Int32) [(.int (((p1.toInt8.toInt32) ^^^ (-1 : Int32)).toInt8.toInt32)), (.int (((p1.toUInt32 >>> ((8 : Int32) &&& 31).toUInt32).toInt32).toInt8.toInt32))] (.int (0 : Int32)) := Arv.set Ar103 Aq103 As103 An103 Ah103 Ag103 (fits_nar_byte _) W103 0 rfl (Nat.le_of_ble_eq_true rfl)
  have f104 := f101.wr W103
  have f105 := Eq99.wr W103
  have f106 := Fa99.other W103 (Or.inl (Ne.symm ne_b91_r99))
  have f107 := Fb99.other W103 (Or.inl (Ne.symm ne_b91_r99))
  have f108 := Vq99.other W103 (Ne.symm ne_b91_x99)
  have f109 := Ec99.wr W103
  have N110 := Fr.snoc X103 N99 q_b91
  have OLD110 := OLD102.wr W103 q_b91
  have K110 := K102.wr W103 (Or.inr sz_b91)
  have Z110 := Nat.le_trans Z102 (Nat.le_of_eq W103.size.symm)
  have hk111 := Nat.le_trans (Nat.le_refl _) (Nat.le_of_eq W103.size.symm)
  refine ogoW st103 ?_
  show OwnEndsW _ _ _ _ _ _ _ (T103.setTop (mkF m 97 #[.val (.int p0), .val (.int p1), .val (.int (2 : Int32)), .val (.int (p1.toInt8.toInt32)), .val (.int (((p1.toUInt32 >>> ((8 : Int32) &&& 31).toUInt32).toInt32).toInt8.toInt32)), .val (.int (((p1.toUInt32 >>> ((16 : Int32) &&& 31).toUInt32).toInt32).toInt8.toInt32)), .val (.int (((p1.toUInt32 >>> ((24 : Int32) &&& 31).toUInt32).toInt32).toInt8.toInt32)), .val (.ref b91), .val (.ref r99), .unset, .unset] []))
  refine ogoW (fun t k => XS.iloadN X103.here hx rfl (hb hby at_97) rfl k) ?_
  show OwnEndsW _ _ _ _ _ _ _ (T103.setTop (mkF m 98 #[.val (.int p0), .val (.int p1), .val (.int (2 : Int32)), .val (.int (p1.toInt8.toInt32)), .val (.int (((p1.toUInt32 >>> ((8 : Int32) &&& 31).toUInt32).toInt32).toInt8.toInt32)), .val (.int (((p1.toUInt32 >>> ((16 : Int32) &&& 31).toUInt32).toInt32).toInt8.toInt32)), .val (.int (((p1.toUInt32 >>> ((24 : Int32) &&& 31).toUInt32).toInt32).toInt8.toInt32)), .val (.ref b91), .val (.ref r99), .unset, .unset] [(.int (2 : Int32))]))
  refine ogoW (fun t k => XS.iconst X103.here hx rfl (hb hby at_98) k) ?_
  show OwnEndsW _ _ _ _ _ _ _ (T103.setTop (mkF m 99 #[.val (.int p0), .val (.int p1), .val (.int (2 : Int32)), .val (.int (p1.toInt8.toInt32)), .val (.int (((p1.toUInt32 >>> ((8 : Int32) &&& 31).toUInt32).toInt32).toInt8.toInt32)), .val (.int (((p1.toUInt32 >>> ((16 : Int32) &&& 31).toUInt32).toInt32).toInt8.toInt32)), .val (.int (((p1.toUInt32 >>> ((24 : Int32) &&& 31).toUInt32).toInt32).toInt8.toInt32)), .val (.ref b91), .val (.ref r99), .unset, .unset] [(.int (1 : Int32)), (.int (2 : Int32))]))
  refine ogoW (fun t k => XS.icmpNo X103.here hx rfl (hb hby at_99) rfl (tlt (by decide : (1 : Int32) < (2 : Int32))).2.2.2 k) ?_
  show OwnEndsW _ _ _ _ _ _ _ (T103.setTop (mkF m 102 #[.val (.int p0), .val (.int p1), .val (.int (2 : Int32)), .val (.int (p1.toInt8.toInt32)), .val (.int (((p1.toUInt32 >>> ((8 : Int32) &&& 31).toUInt32).toInt32).toInt8.toInt32)), .val (.int (((p1.toUInt32 >>> ((16 : Int32) &&& 31).toUInt32).toInt32).toInt8.toInt32)), .val (.int (((p1.toUInt32 >>> ((24 : Int32) &&& 31).toUInt32).toInt32).toInt8.toInt32)), .val (.ref b91), .val (.ref r99), .unset, .unset] []))
  refine ogoW (fun t k => XS.aload X103.here hx rfl (hb hby at_102) rfl rfl k) ?_
  show OwnEndsW _ _ _ _ _ _ _ (T103.setTop (mkF m 104 #[.val (.int p0), .val (.int p1), .val (.int (2 : Int32)), .val (.int (p1.toInt8.toInt32)), .val (.int (((p1.toUInt32 >>> ((8 : Int32) &&& 31).toUInt32).toInt32).toInt8.toInt32)), .val (.int (((p1.toUInt32 >>> ((16 : Int32) &&& 31).toUInt32).toInt32).toInt8.toInt32)), .val (.int (((p1.toUInt32 >>> ((24 : Int32) &&& 31).toUInt32).toInt32).toInt8.toInt32)), .val (.ref b91), .val (.ref r99), .unset, .unset] [(.ref b91)]))
  refine ogoW (fun t k => XS.iconst X103.here hx rfl (hb hby at_104) k) ?_
  show OwnEndsW _ _ _ _ _ _ _ (T103.setTop (mkF m 105 #[.val (.int p0), .val (.int p1), .val (.int (2 : Int32)), .val (.int (p1.toInt8.toInt32)), .val (.int (((p1.toUInt32 >>> ((8 : Int32) &&& 31).toUInt32).toInt32).toInt8.toInt32)), .val (.int (((p1.toUInt32 >>> ((16 : Int32) &&& 31).toUInt32).toInt32).toInt8.toInt32)), .val (.int (((p1.toUInt32 >>> ((24 : Int32) &&& 31).toUInt32).toInt32).toInt8.toInt32)), .val (.ref b91), .val (.ref r99), .unset, .unset] [(.int (1 : Int32)), (.ref b91)]))
  refine ogoW (fun t k => XS.iload X103.here hx rfl (hb hby at_105) rfl k) ?_
  show OwnEndsW _ _ _ _ _ _ _ (T103.setTop (mkF m 107 #[.val (.int p0), .val (.int p1), .val (.int (2 : Int32)), .val (.int (p1.toInt8.toInt32)), .val (.int (((p1.toUInt32 >>> ((8 : Int32) &&& 31).toUInt32).toInt32).toInt8.toInt32)), .val (.int (((p1.toUInt32 >>> ((16 : Int32) &&& 31).toUInt32).toInt32).toInt8.toInt32)), .val (.int (((p1.toUInt32 >>> ((24 : Int32) &&& 31).toUInt32).toInt32).toInt8.toInt32)), .val (.ref b91), .val (.ref r99), .unset, .unset] [(.int (((p1.toUInt32 >>> ((8 : Int32) &&& 31).toUInt32).toInt32).toInt8.toInt32)), (.int (1 : Int32)), (.ref b91)]))
  refine ogoW (fun t k => XS.iconst X103.here hx rfl (hb hby at_107) k) ?_
  show OwnEndsW _ _ _ _ _ _ _ (T103.setTop (mkF m 108 #[.val (.int p0), .val (.int p1), .val (.int (2 : Int32)), .val (.int (p1.toInt8.toInt32)), .val (.int (((p1.toUInt32 >>> ((8 : Int32) &&& 31).toUInt32).toInt32).toInt8.toInt32)), .val (.int (((p1.toUInt32 >>> ((16 : Int32) &&& 31).toUInt32).toInt32).toInt8.toInt32)), .val (.int (((p1.toUInt32 >>> ((24 : Int32) &&& 31).toUInt32).toInt32).toInt8.toInt32)), .val (.ref b91), .val (.ref r99), .unset, .unset] [(.int (-1 : Int32)), (.int (((p1.toUInt32 >>> ((8 : Int32) &&& 31).toUInt32).toInt32).toInt8.toInt32)), (.int (1 : Int32)), (.ref b91)]))
  refine ogoW (fun t k => XS.ixor X103.here hx rfl (hb hby at_108) rfl k) ?_
  show OwnEndsW _ _ _ _ _ _ _ (T103.setTop (mkF m 109 #[.val (.int p0), .val (.int p1), .val (.int (2 : Int32)), .val (.int (p1.toInt8.toInt32)), .val (.int (((p1.toUInt32 >>> ((8 : Int32) &&& 31).toUInt32).toInt32).toInt8.toInt32)), .val (.int (((p1.toUInt32 >>> ((16 : Int32) &&& 31).toUInt32).toInt32).toInt8.toInt32)), .val (.int (((p1.toUInt32 >>> ((24 : Int32) &&& 31).toUInt32).toInt32).toInt8.toInt32)), .val (.ref b91), .val (.ref r99), .unset, .unset] [(.int ((((p1.toUInt32 >>> ((8 : Int32) &&& 31).toUInt32).toInt32).toInt8.toInt32) ^^^ (-1 : Int32))), (.int (1 : Int32)), (.ref b91)]))
  refine ogoW (fun t k => XS.i2b X103.here hx rfl (hb hby at_109) rfl k) ?_
  show OwnEndsW _ _ _ _ _ _ _ (T103.setTop (mkF m 110 #[.val (.int p0), .val (.int p1), .val (.int (2 : Int32)), .val (.int (p1.toInt8.toInt32)), .val (.int (((p1.toUInt32 >>> ((8 : Int32) &&& 31).toUInt32).toInt32).toInt8.toInt32)), .val (.int (((p1.toUInt32 >>> ((16 : Int32) &&& 31).toUInt32).toInt32).toInt8.toInt32)), .val (.int (((p1.toUInt32 >>> ((24 : Int32) &&& 31).toUInt32).toInt32).toInt8.toInt32)), .val (.ref b91), .val (.ref r99), .unset, .unset] [(.int (((((p1.toUInt32 >>> ((8 : Int32) &&& 31).toUInt32).toInt32).toInt8.toInt32) ^^^ (-1 : Int32)).toInt8.toInt32)), (.int (1 : Int32)), (.ref b91)]))
  obtain ⟨cl112, Ar112, Aq112, As112, An112, Ah112, Ag112⟩ := id V103
  obtain ⟨T112, h112, X112, e112, W112, st112⟩ := stB X103 hx hZ e103 Ar112 (j := (1 : Int32)) (inb_of As112 ⟨by decide, by decide⟩) (g := (mkF m 110 #[.val (.int p0), .val (.int p1), .val (.int (2 : Int32)), .val (.int (p1.toInt8.toInt32)), .val (.int (((p1.toUInt32 >>> ((8 : Int32) &&& 31).toUInt32).toInt32).toInt8.toInt32)), .val (.int (((p1.toUInt32 >>> ((16 : Int32) &&& 31).toUInt32).toInt32).toInt8.toInt32)), .val (.int (((p1.toUInt32 >>> ((24 : Int32) &&& 31).toUInt32).toInt32).toInt8.toInt32)), .val (.ref b91), .val (.ref r99), .unset, .unset] [(.int (((((p1.toUInt32 >>> ((8 : Int32) &&& 31).toUInt32).toInt32).toInt8.toInt32) ^^^ (-1 : Int32)).toInt8.toInt32)), (.int (1 : Int32)), (.ref b91)])) rfl rfl (hb hby at_110)
  rw [own_narb] at W112
  have V112 : Arv Z h112 b91 k91 .byte (2 : Int32) [(.int (((p1.toInt8.toInt32) ^^^ (-1 : Int32)).toInt8.toInt32)), (.int (((((p1.toUInt32 >>> ((8 : Int32) &&& 31).toUInt32).toInt32).toInt8.toInt32) ^^^ (-1 : Int32)).toInt8.toInt32))] (.int (0 : Int32)) := Arv.set Ar112 Aq112 As112 An112 Ah112 Ag112 (fits_nar_byte _) W112 1 rfl (Nat.le_of_ble_eq_true rfl)
  have f113 := f104.wr W112
  have f114 := f105.wr W112
  have f115 := f106.other W112 (Or.inl (Ne.symm ne_b91_r99))
  have f116 := f107.other W112 (Or.inl (Ne.symm ne_b91_r99))
  have f117 := f108.other W112 (Ne.symm ne_b91_x99)
  have f118 := f109.wr W112
  have N119 := Fr.snoc X112 N110 q_b91
  have OLD119 := OLD110.wr W112 q_b91
  have K119 := K110.wr W112 (Or.inr sz_b91)
  have Z119 := Nat.le_trans Z110 (Nat.le_of_eq W112.size.symm)
  have hk120 := Nat.le_trans hk111 (Nat.le_of_eq W112.size.symm)
  refine ogoW st112 ?_
  show OwnEndsW _ _ _ _ _ _ _ (T112.setTop (mkF m 111 #[.val (.int p0), .val (.int p1), .val (.int (2 : Int32)), .val (.int (p1.toInt8.toInt32)), .val (.int (((p1.toUInt32 >>> ((8 : Int32) &&& 31).toUInt32).toInt32).toInt8.toInt32)), .val (.int (((p1.toUInt32 >>> ((16 : Int32) &&& 31).toUInt32).toInt32).toInt8.toInt32)), .val (.int (((p1.toUInt32 >>> ((24 : Int32) &&& 31).toUInt32).toInt32).toInt8.toInt32)), .val (.ref b91), .val (.ref r99), .unset, .unset] []))
  refine ogoW (fun t k => XS.iloadN X112.here hx rfl (hb hby at_111) rfl k) ?_
  show OwnEndsW _ _ _ _ _ _ _ (T112.setTop (mkF m 112 #[.val (.int p0), .val (.int p1), .val (.int (2 : Int32)), .val (.int (p1.toInt8.toInt32)), .val (.int (((p1.toUInt32 >>> ((8 : Int32) &&& 31).toUInt32).toInt32).toInt8.toInt32)), .val (.int (((p1.toUInt32 >>> ((16 : Int32) &&& 31).toUInt32).toInt32).toInt8.toInt32)), .val (.int (((p1.toUInt32 >>> ((24 : Int32) &&& 31).toUInt32).toInt32).toInt8.toInt32)), .val (.ref b91), .val (.ref r99), .unset, .unset] [(.int (2 : Int32))]))
  refine ogoW (fun t k => XS.iconst X112.here hx rfl (hb hby at_112) k) ?_
  show OwnEndsW _ _ _ _ _ _ _ (T112.setTop (mkF m 113 #[.val (.int p0), .val (.int p1), .val (.int (2 : Int32)), .val (.int (p1.toInt8.toInt32)), .val (.int (((p1.toUInt32 >>> ((8 : Int32) &&& 31).toUInt32).toInt32).toInt8.toInt32)), .val (.int (((p1.toUInt32 >>> ((16 : Int32) &&& 31).toUInt32).toInt32).toInt8.toInt32)), .val (.int (((p1.toUInt32 >>> ((24 : Int32) &&& 31).toUInt32).toInt32).toInt8.toInt32)), .val (.ref b91), .val (.ref r99), .unset, .unset] [(.int (2 : Int32)), (.int (2 : Int32))]))
  refine ogoW (fun t k => XS.icmpYes X112.here hx rfl (pc0 := 113) (pc' := 125) rfl (hb hby at_113) rfl (flt (by decide : ¬ ((2 : Int32) < (2 : Int32)))).2.2.2 (by decide) (by decide) k) ?_
  show OwnEndsW _ _ _ _ _ _ _ (T112.setTop (mkF m 125 #[.val (.int p0), .val (.int p1), .val (.int (2 : Int32)), .val (.int (p1.toInt8.toInt32)), .val (.int (((p1.toUInt32 >>> ((8 : Int32) &&& 31).toUInt32).toInt32).toInt8.toInt32)), .val (.int (((p1.toUInt32 >>> ((16 : Int32) &&& 31).toUInt32).toInt32).toInt8.toInt32)), .val (.int (((p1.toUInt32 >>> ((24 : Int32) &&& 31).toUInt32).toInt32).toInt8.toInt32)), .val (.ref b91), .val (.ref r99), .unset, .unset] []))
  refine ogoW (fun t k => XS.iloadN X112.here hx rfl (hb hby at_125) rfl k) ?_
  show OwnEndsW _ _ _ _ _ _ _ (T112.setTop (mkF m 126 #[.val (.int p0), .val (.int p1), .val (.int (2 : Int32)), .val (.int (p1.toInt8.toInt32)), .val (.int (((p1.toUInt32 >>> ((8 : Int32) &&& 31).toUInt32).toInt32).toInt8.toInt32)), .val (.int (((p1.toUInt32 >>> ((16 : Int32) &&& 31).toUInt32).toInt32).toInt8.toInt32)), .val (.int (((p1.toUInt32 >>> ((24 : Int32) &&& 31).toUInt32).toInt32).toInt8.toInt32)), .val (.ref b91), .val (.ref r99), .unset, .unset] [(.int (2 : Int32))]))
  refine ogoW (fun t k => XS.iconst X112.here hx rfl (hb hby at_126) k) ?_
  show OwnEndsW _ _ _ _ _ _ _ (T112.setTop (mkF m 127 #[.val (.int p0), .val (.int p1), .val (.int (2 : Int32)), .val (.int (p1.toInt8.toInt32)), .val (.int (((p1.toUInt32 >>> ((8 : Int32) &&& 31).toUInt32).toInt32).toInt8.toInt32)), .val (.int (((p1.toUInt32 >>> ((16 : Int32) &&& 31).toUInt32).toInt32).toInt8.toInt32)), .val (.int (((p1.toUInt32 >>> ((24 : Int32) &&& 31).toUInt32).toInt32).toInt8.toInt32)), .val (.ref b91), .val (.ref r99), .unset, .unset] [(.int (3 : Int32)), (.int (2 : Int32))]))
  refine ogoW (fun t k => XS.icmpYes X112.here hx rfl (pc0 := 127) (pc' := 139) rfl (hb hby at_127) rfl (flt (by decide : ¬ ((3 : Int32) < (2 : Int32)))).2.2.2 (by decide) (by decide) k) ?_
  show OwnEndsW _ _ _ _ _ _ _ (T112.setTop (mkF m 139 #[.val (.int p0), .val (.int p1), .val (.int (2 : Int32)), .val (.int (p1.toInt8.toInt32)), .val (.int (((p1.toUInt32 >>> ((8 : Int32) &&& 31).toUInt32).toInt32).toInt8.toInt32)), .val (.int (((p1.toUInt32 >>> ((16 : Int32) &&& 31).toUInt32).toInt32).toInt8.toInt32)), .val (.int (((p1.toUInt32 >>> ((24 : Int32) &&& 31).toUInt32).toInt32).toInt8.toInt32)), .val (.ref b91), .val (.ref r99), .unset, .unset] []))
  refine ogoW (fun t k => XS.aload X112.here hx rfl (hb hby at_139) rfl rfl k) ?_
  show OwnEndsW _ _ _ _ _ _ _ (T112.setTop (mkF m 141 #[.val (.int p0), .val (.int p1), .val (.int (2 : Int32)), .val (.int (p1.toInt8.toInt32)), .val (.int (((p1.toUInt32 >>> ((8 : Int32) &&& 31).toUInt32).toInt32).toInt8.toInt32)), .val (.int (((p1.toUInt32 >>> ((16 : Int32) &&& 31).toUInt32).toInt32).toInt8.toInt32)), .val (.int (((p1.toUInt32 >>> ((24 : Int32) &&& 31).toUInt32).toInt32).toInt8.toInt32)), .val (.ref b91), .val (.ref r99), .unset, .unset] [(.ref r99)]))
  obtain ⟨cq121, kq121, q121a, q121b, q121c⟩ := isOf hZ e112 f114
  obtain ⟨v121, _, ⟨T121, L121, k121, n121⟩, -, X121, ⟨Lc121, hQ121, l121, y121, z121⟩, st121⟩ := X112.virtualBack hx (y := (⟨"com/example/once_guard/onceguard/ClaimResult", "state", "()Lcom/example/once_guard/onceguard/ClaimResult$State;"⟩ : MethodName)) (z := (⟨"com/example/once_guard/onceguard/ClaimResult", "state", "()Lcom/example/once_guard/onceguard/ClaimResult$State;"⟩ : MethodName)) hown (mvT hZ (hw _ (List.mem_of_getElem? (i := 45) rfl))) (mvT hZ (hw _ (List.mem_of_getElem? (i := 46) rfl))) (notFace_of_selects (args := #[]) (mvT hZ (hw _ (List.mem_of_getElem? (i := 48) rfl)))) (mvT hZ (hw _ (List.mem_of_getElem? (i := 48) rfl))) (mvT hZ (hw _ (List.mem_of_getElem? (i := 47) rfl))) (by decide) (backOf (W := 0) (rm3 l Z a0 hw [] r99 w_IN_PROGRESS h112 n0 Z119 f115) hZ (hw _ (List.mem_of_getElem? (i := 49) rfl)) (hw _ (List.mem_of_getElem? (i := 4) rfl)) (by decide) (by decide)) q121a q121c (g := (mkF m 141 #[.val (.int p0), .val (.int p1), .val (.int (2 : Int32)), .val (.int (p1.toInt8.toInt32)), .val (.int (((p1.toUInt32 >>> ((8 : Int32) &&& 31).toUInt32).toInt32).toInt8.toInt32)), .val (.int (((p1.toUInt32 >>> ((16 : Int32) &&& 31).toUInt32).toInt32).toInt8.toInt32)), .val (.int (((p1.toUInt32 >>> ((24 : Int32) &&& 31).toUInt32).toInt32).toInt8.toInt32)), .val (.ref b91), .val (.ref r99), .unset, .unset] [(.ref r99)])) rfl (by rw [hml]; rfl) (Steps.refl _) (argsL := []) (rest := []) (lenOf pd___Lcom_example_once_guard_onceguard_ClaimResult_State_ rfl) rfl (by show 2 * 0 + _ ≤ _; exact Nat.le_of_eq rfl) (hb hby at_141) (fun _ _ => ⟨rfl, e112, (by decide : 5 + 0 ≤ _), (by decide : 134 + 0 ≤ _)⟩)
  dsimp only [Pt.U, Pt.locs, Pt.cells, Pt.slots] at X121 l121 y121 z121 st121 hQ121
  subst l121 y121 z121
  obtain ⟨rfl, N121q, e121⟩ := hQ121
  have N121 := Fr.app N119 N121q
  refine ogoW (fun t k => st121.trans k) ?_
  show OwnEndsW _ _ _ _ _ _ _ (T121.setTop (mkF m 144 #[.val (.int p0), .val (.int p1), .val (.int (2 : Int32)), .val (.int (p1.toInt8.toInt32)), .val (.int (((p1.toUInt32 >>> ((8 : Int32) &&& 31).toUInt32).toInt32).toInt8.toInt32)), .val (.int (((p1.toUInt32 >>> ((16 : Int32) &&& 31).toUInt32).toInt32).toInt8.toInt32)), .val (.int (((p1.toUInt32 >>> ((24 : Int32) &&& 31).toUInt32).toInt32).toInt8.toInt32)), .val (.ref b91), .val (.ref r99), .unset, .unset] [(.ref w_IN_PROGRESS)]))
  obtain ⟨T122, X122, e122, st122⟩ := getS2 X121 hx hZ hown (host := "") (Or.inl (hw _ (List.mem_of_getElem? (i := 50) rfl))) Via.refl e121 (S_IN_PROGRESS.ext OLD119.2) (g := (mkF m 144 #[.val (.int p0), .val (.int p1), .val (.int (2 : Int32)), .val (.int (p1.toInt8.toInt32)), .val (.int (((p1.toUInt32 >>> ((8 : Int32) &&& 31).toUInt32).toInt32).toInt8.toInt32)), .val (.int (((p1.toUInt32 >>> ((16 : Int32) &&& 31).toUInt32).toInt32).toInt8.toInt32)), .val (.int (((p1.toUInt32 >>> ((24 : Int32) &&& 31).toUInt32).toInt32).toInt8.toInt32)), .val (.ref b91), .val (.ref r99), .unset, .unset] [(.ref w_IN_PROGRESS)])) rfl (hb hby at_144)
  refine ogoW st122 ?_
  show OwnEndsW _ _ _ _ _ _ _ (T122.setTop (mkF m 147 #[.val (.int p0), .val (.int p1), .val (.int (2 : Int32)), .val (.int (p1.toInt8.toInt32)), .val (.int (((p1.toUInt32 >>> ((8 : Int32) &&& 31).toUInt32).toInt32).toInt8.toInt32)), .val (.int (((p1.toUInt32 >>> ((16 : Int32) &&& 31).toUInt32).toInt32).toInt8.toInt32)), .val (.int (((p1.toUInt32 >>> ((24 : Int32) &&& 31).toUInt32).toInt32).toInt8.toInt32)), .val (.ref b91), .val (.ref r99), .unset, .unset] [(.ref w_IN_PROGRESS), (.ref w_IN_PROGRESS)]))
  refine ogoW (fun t k => Jvm.RoadKit.acmp (g := (mkF m 147 #[.val (.int p0), .val (.int p1), .val (.int (2 : Int32)), .val (.int (p1.toInt8.toInt32)), .val (.int (((p1.toUInt32 >>> ((8 : Int32) &&& 31).toUInt32).toInt32).toInt8.toInt32)), .val (.int (((p1.toUInt32 >>> ((16 : Int32) &&& 31).toUInt32).toInt32).toInt8.toInt32)), .val (.int (((p1.toUInt32 >>> ((24 : Int32) &&& 31).toUInt32).toInt32).toInt8.toInt32)), .val (.ref b91), .val (.ref r99), .unset, .unset] [(.ref w_IN_PROGRESS), (.ref w_IN_PROGRESS)])) X122 hx rfl rfl rfl (pc0 := 147) (pc' := 152) (same := true) rfl (hb hby at_147) rfl (decide_eq_true (congrArg Value.ref rfl)) (by decide) (by decide) k) ?_
  show OwnEndsW _ _ _ _ _ _ _ (T122.setTop (mkF m 152 #[.val (.int p0), .val (.int p1), .val (.int (2 : Int32)), .val (.int (p1.toInt8.toInt32)), .val (.int (((p1.toUInt32 >>> ((8 : Int32) &&& 31).toUInt32).toInt32).toInt8.toInt32)), .val (.int (((p1.toUInt32 >>> ((16 : Int32) &&& 31).toUInt32).toInt32).toInt8.toInt32)), .val (.int (((p1.toUInt32 >>> ((24 : Int32) &&& 31).toUInt32).toInt32).toInt8.toInt32)), .val (.ref b91), .val (.ref r99), .unset, .unset] []))
  refine ogoW (fun t k => XS.aload X122.here hx rfl (hb hby at_152) rfl rfl k) ?_
  show OwnEndsW _ _ _ _ _ _ _ (T122.setTop (mkF m 154 #[.val (.int p0), .val (.int p1), .val (.int (2 : Int32)), .val (.int (p1.toInt8.toInt32)), .val (.int (((p1.toUInt32 >>> ((8 : Int32) &&& 31).toUInt32).toInt32).toInt8.toInt32)), .val (.int (((p1.toUInt32 >>> ((16 : Int32) &&& 31).toUInt32).toInt32).toInt8.toInt32)), .val (.int (((p1.toUInt32 >>> ((24 : Int32) &&& 31).toUInt32).toInt32).toInt8.toInt32)), .val (.ref b91), .val (.ref r99), .unset, .unset] [(.ref r99)]))
  obtain ⟨cq123, kq123, q123a, q123b, q123c⟩ := isOf hZ e122 f114
  obtain ⟨v123, _, ⟨T123, L123, k123, n123⟩, -, X123, ⟨Lc123, hQ123, l123, y123, z123⟩, st123⟩ := X122.virtualBack hx (y := (⟨"com/example/once_guard/onceguard/ClaimResult", "payloadDigest", "()[B"⟩ : MethodName)) (z := (⟨"com/example/once_guard/onceguard/ClaimResult", "payloadDigest", "()[B"⟩ : MethodName)) hown (mvT hZ (hw _ (List.mem_of_getElem? (i := 51) rfl))) (mvT hZ (hw _ (List.mem_of_getElem? (i := 52) rfl))) (notFace_of_selects (args := #[]) (mvT hZ (hw _ (List.mem_of_getElem? (i := 54) rfl)))) (mvT hZ (hw _ (List.mem_of_getElem? (i := 54) rfl))) (mvT hZ (hw _ (List.mem_of_getElem? (i := 53) rfl))) (by decide) (backOf (W := 0) (rm4 l Z a0 hw [] r99 x99 (2 : Int32) [(.int (p1.toInt8.toInt32)), (.int (((p1.toUInt32 >>> ((8 : Int32) &&& 31).toUInt32).toInt32).toInt8.toInt32))] w_IN_PROGRESS w_CLAIMED h112 n0 Z119 OLD119 S_CLAIMED f115 f116 f117 f118 (by decide) (Fld.ne F_ordinal_IN_PROGRESS F_ordinal_CLAIMED (by simp))) hZ (hw _ (List.mem_of_getElem? (i := 55) rfl)) (hw _ (List.mem_of_getElem? (i := 4) rfl)) (by decide) (by decide)) q123a q123c (g := (mkF m 154 #[.val (.int p0), .val (.int p1), .val (.int (2 : Int32)), .val (.int (p1.toInt8.toInt32)), .val (.int (((p1.toUInt32 >>> ((8 : Int32) &&& 31).toUInt32).toInt32).toInt8.toInt32)), .val (.int (((p1.toUInt32 >>> ((16 : Int32) &&& 31).toUInt32).toInt32).toInt8.toInt32)), .val (.int (((p1.toUInt32 >>> ((24 : Int32) &&& 31).toUInt32).toInt32).toInt8.toInt32)), .val (.ref b91), .val (.ref r99), .unset, .unset] [(.ref r99)])) rfl (by rw [hml]; rfl) (Steps.refl _) (argsL := []) (rest := []) (lenOf pd____B rfl) rfl (by show 2 * 0 + _ ≤ _; exact Nat.le_of_eq rfl) (hb hby at_154) (fun _ _ => ⟨rfl, e122, (by decide : 5 + 1 ≤ _), (by decide : 134 + 4 ≤ _)⟩)
  dsimp only [Pt.U, Pt.locs, Pt.cells, Pt.slots] at X123 l123 y123 z123 st123 hQ123
  subst l123 y123 z123
  obtain ⟨r123, rfl, Sq123, N123q, Kq123, Vq123, Eq123⟩ := hQ123
  have N123 := Fr.app N121 N123q
  have ne_b91_r123 : b91 ≠ r123 := Nat.ne_of_lt (Nat.lt_of_lt_of_le (V112).lt Sq123)
  have ne_r99_r123 : r99 ≠ r123 := Nat.ne_of_lt (Nat.lt_of_lt_of_le (f114).lt Sq123)
  have ne_x99_r123 : x99 ≠ r123 := Nat.ne_of_lt (Nat.lt_of_lt_of_le (f117).lt Sq123)
  have q_r123 : n0 ≤ r123 := Nat.le_trans Z119 Sq123
  have sz_r123 : h0.size ≤ r123 := Nat.le_trans K119.1 Sq123
  have f124 := V112.keep Kq123 nin0
  have f125 := f113.keep Kq123
  have f126 := f114.keep Kq123
  have f127 := f115.keep Kq123 nin0
  have f128 := f116.keep Kq123 nin0
  have f129 := f117.keep Kq123 nin0
  have f130 := f118.keep Kq123
  have OLD131 := OLD119.keep Kq123 all0
  have K131 := K119.trans Kq123 all0
  have Z131 := Nat.le_trans Z119 Kq123.1
  have hk132 := Nat.le_trans hk120 Kq123.1
  refine ogoW (fun t k => st123.trans k) ?_
  show OwnEndsW _ _ _ _ _ _ _ (T123.setTop (mkF m 157 #[.val (.int p0), .val (.int p1), .val (.int (2 : Int32)), .val (.int (p1.toInt8.toInt32)), .val (.int (((p1.toUInt32 >>> ((8 : Int32) &&& 31).toUInt32).toInt32).toInt8.toInt32)), .val (.int (((p1.toUInt32 >>> ((16 : Int32) &&& 31).toUInt32).toInt32).toInt8.toInt32)), .val (.int (((p1.toUInt32 >>> ((24 : Int32) &&& 31).toUInt32).toInt32).toInt8.toInt32)), .val (.ref b91), .val (.ref r99), .unset, .unset] [(.ref r123)]))
  refine ogoW (fun t k => XS.astore X123.here hx rfl (hb hby at_157) rfl rfl (l' := #[.val (.int p0), .val (.int p1), .val (.int (2 : Int32)), .val (.int (p1.toInt8.toInt32)), .val (.int (((p1.toUInt32 >>> ((8 : Int32) &&& 31).toUInt32).toInt32).toInt8.toInt32)), .val (.int (((p1.toUInt32 >>> ((16 : Int32) &&& 31).toUInt32).toInt32).toInt8.toInt32)), .val (.int (((p1.toUInt32 >>> ((24 : Int32) &&& 31).toUInt32).toInt32).toInt8.toInt32)), .val (.ref b91), .val (.ref r99), .val (.ref r123), .unset]) rfl k) ?_
  show OwnEndsW _ _ _ _ _ _ _ (T123.setTop (mkF m 159 #[.val (.int p0), .val (.int p1), .val (.int (2 : Int32)), .val (.int (p1.toInt8.toInt32)), .val (.int (((p1.toUInt32 >>> ((8 : Int32) &&& 31).toUInt32).toInt32).toInt8.toInt32)), .val (.int (((p1.toUInt32 >>> ((16 : Int32) &&& 31).toUInt32).toInt32).toInt8.toInt32)), .val (.int (((p1.toUInt32 >>> ((24 : Int32) &&& 31).toUInt32).toInt32).toInt8.toInt32)), .val (.ref b91), .val (.ref r99), .val (.ref r123), .unset] []))
  refine ogoW (fun t k => XS.aload X123.here hx rfl (hb hby at_159) rfl rfl k) ?_
  show OwnEndsW _ _ _ _ _ _ _ (T123.setTop (mkF m 161 #[.val (.int p0), .val (.int p1), .val (.int (2 : Int32)), .val (.int (p1.toInt8.toInt32)), .val (.int (((p1.toUInt32 >>> ((8 : Int32) &&& 31).toUInt32).toInt32).toInt8.toInt32)), .val (.int (((p1.toUInt32 >>> ((16 : Int32) &&& 31).toUInt32).toInt32).toInt8.toInt32)), .val (.int (((p1.toUInt32 >>> ((24 : Int32) &&& 31).toUInt32).toInt32).toInt8.toInt32)), .val (.ref b91), .val (.ref r99), .val (.ref r123), .unset] [(.ref r123)]))
  refine ogoW (fun t k => XS.iloadN X123.here hx rfl (hb hby at_161) rfl k) ?_
  show OwnEndsW _ _ _ _ _ _ _ (T123.setTop (mkF m 162 #[.val (.int p0), .val (.int p1), .val (.int (2 : Int32)), .val (.int (p1.toInt8.toInt32)), .val (.int (((p1.toUInt32 >>> ((8 : Int32) &&& 31).toUInt32).toInt32).toInt8.toInt32)), .val (.int (((p1.toUInt32 >>> ((16 : Int32) &&& 31).toUInt32).toInt32).toInt8.toInt32)), .val (.int (((p1.toUInt32 >>> ((24 : Int32) &&& 31).toUInt32).toInt32).toInt8.toInt32)), .val (.ref b91), .val (.ref r99), .val (.ref r123), .unset] [(.int (2 : Int32)), (.ref r123)]))
  refine ogoW (fun t k => XS.iloadN X123.here hx rfl (hb hby at_162) rfl k) ?_
  show OwnEndsW _ _ _ _ _ _ _ (T123.setTop (mkF m 163 #[.val (.int p0), .val (.int p1), .val (.int (2 : Int32)), .val (.int (p1.toInt8.toInt32)), .val (.int (((p1.toUInt32 >>> ((8 : Int32) &&& 31).toUInt32).toInt32).toInt8.toInt32)), .val (.int (((p1.toUInt32 >>> ((16 : Int32) &&& 31).toUInt32).toInt32).toInt8.toInt32)), .val (.int (((p1.toUInt32 >>> ((24 : Int32) &&& 31).toUInt32).toInt32).toInt8.toInt32)), .val (.ref b91), .val (.ref r99), .val (.ref r123), .unset] [(.int (p1.toInt8.toInt32)), (.int (2 : Int32)), (.ref r123)]))
  refine ogoW (fun t k => XS.iload X123.here hx rfl (hb hby at_163) rfl k) ?_
  show OwnEndsW _ _ _ _ _ _ _ (T123.setTop (mkF m 165 #[.val (.int p0), .val (.int p1), .val (.int (2 : Int32)), .val (.int (p1.toInt8.toInt32)), .val (.int (((p1.toUInt32 >>> ((8 : Int32) &&& 31).toUInt32).toInt32).toInt8.toInt32)), .val (.int (((p1.toUInt32 >>> ((16 : Int32) &&& 31).toUInt32).toInt32).toInt8.toInt32)), .val (.int (((p1.toUInt32 >>> ((24 : Int32) &&& 31).toUInt32).toInt32).toInt8.toInt32)), .val (.ref b91), .val (.ref r99), .val (.ref r123), .unset] [(.int (((p1.toUInt32 >>> ((8 : Int32) &&& 31).toUInt32).toInt32).toInt8.toInt32)), (.int (p1.toInt8.toInt32)), (.int (2 : Int32)), (.ref r123)]))
  refine ogoW (fun t k => XS.iload X123.here hx rfl (hb hby at_165) rfl k) ?_
  show OwnEndsW _ _ _ _ _ _ _ (T123.setTop (mkF m 167 #[.val (.int p0), .val (.int p1), .val (.int (2 : Int32)), .val (.int (p1.toInt8.toInt32)), .val (.int (((p1.toUInt32 >>> ((8 : Int32) &&& 31).toUInt32).toInt32).toInt8.toInt32)), .val (.int (((p1.toUInt32 >>> ((16 : Int32) &&& 31).toUInt32).toInt32).toInt8.toInt32)), .val (.int (((p1.toUInt32 >>> ((24 : Int32) &&& 31).toUInt32).toInt32).toInt8.toInt32)), .val (.ref b91), .val (.ref r99), .val (.ref r123), .unset] [(.int (((p1.toUInt32 >>> ((16 : Int32) &&& 31).toUInt32).toInt32).toInt8.toInt32)), (.int (((p1.toUInt32 >>> ((8 : Int32) &&& 31).toUInt32).toInt32).toInt8.toInt32)), (.int (p1.toInt8.toInt32)), (.int (2 : Int32)), (.ref r123)]))
  refine ogoW (fun t k => XS.iload X123.here hx rfl (hb hby at_167) rfl k) ?_
  show OwnEndsW _ _ _ _ _ _ _ (T123.setTop (mkF m 169 #[.val (.int p0), .val (.int p1), .val (.int (2 : Int32)), .val (.int (p1.toInt8.toInt32)), .val (.int (((p1.toUInt32 >>> ((8 : Int32) &&& 31).toUInt32).toInt32).toInt8.toInt32)), .val (.int (((p1.toUInt32 >>> ((16 : Int32) &&& 31).toUInt32).toInt32).toInt8.toInt32)), .val (.int (((p1.toUInt32 >>> ((24 : Int32) &&& 31).toUInt32).toInt32).toInt8.toInt32)), .val (.ref b91), .val (.ref r99), .val (.ref r123), .unset] [(.int (((p1.toUInt32 >>> ((24 : Int32) &&& 31).toUInt32).toInt32).toInt8.toInt32)), (.int (((p1.toUInt32 >>> ((16 : Int32) &&& 31).toUInt32).toInt32).toInt8.toInt32)), (.int (((p1.toUInt32 >>> ((8 : Int32) &&& 31).toUInt32).toInt32).toInt8.toInt32)), (.int (p1.toInt8.toInt32)), (.int (2 : Int32)), (.ref r123)]))
  obtain ⟨v133, _, ⟨T133, L133, k133, n133⟩, -, X133, ⟨Lc133, hQ133, l133, y133, z133⟩, st133⟩ := Jvm.LawKit.callS X123 hx (y := (⟨"com/example/once_guard/onceguard/ClaimResultInProgressPinLaw", "same", "([BIBBBB)Z"⟩ : MethodName)) hown (mvT hZ (hw _ (List.mem_of_getElem? (i := 58) rfl))) (mvT hZ (hw _ (List.mem_of_getElem? (i := 59) rfl))) (mvT hZ (hw _ (List.mem_of_getElem? (i := 60) rfl))) (mvT hZ (hw _ (List.mem_of_getElem? (i := 61) rfl))) (by decide) (backOf (W := 0) (rm62 l Z a0 hw [] r123 (p1.toInt8.toInt32) (((p1.toUInt32 >>> ((8 : Int32) &&& 31).toUInt32).toInt32).toInt8.toInt32) (((p1.toUInt32 >>> ((16 : Int32) &&& 31).toUInt32).toInt32).toInt8.toInt32) (((p1.toUInt32 >>> ((24 : Int32) &&& 31).toUInt32).toInt32).toInt8.toInt32) T123.heap n0 Z131 Vq123) hZ (hw _ (List.mem_of_getElem? (i := 61) rfl)) (hw _ (List.mem_of_getElem? (i := 60) rfl)) (by decide) (by decide)) (g := (mkF m 169 #[.val (.int p0), .val (.int p1), .val (.int (2 : Int32)), .val (.int (p1.toInt8.toInt32)), .val (.int (((p1.toUInt32 >>> ((8 : Int32) &&& 31).toUInt32).toInt32).toInt8.toInt32)), .val (.int (((p1.toUInt32 >>> ((16 : Int32) &&& 31).toUInt32).toInt32).toInt8.toInt32)), .val (.int (((p1.toUInt32 >>> ((24 : Int32) &&& 31).toUInt32).toInt32).toInt8.toInt32)), .val (.ref b91), .val (.ref r99), .val (.ref r123), .unset] [(.int (((p1.toUInt32 >>> ((24 : Int32) &&& 31).toUInt32).toInt32).toInt8.toInt32)), (.int (((p1.toUInt32 >>> ((16 : Int32) &&& 31).toUInt32).toInt32).toInt8.toInt32)), (.int (((p1.toUInt32 >>> ((8 : Int32) &&& 31).toUInt32).toInt32).toInt8.toInt32)), (.int (p1.toInt8.toInt32)), (.int (2 : Int32)), (.ref r123)])) rfl (by rw [hml]; rfl) (argsL := [(.ref r123), (.int (2 : Int32)), (.int (p1.toInt8.toInt32)), (.int (((p1.toUInt32 >>> ((8 : Int32) &&& 31).toUInt32).toInt32).toInt8.toInt32)), (.int (((p1.toUInt32 >>> ((16 : Int32) &&& 31).toUInt32).toInt32).toInt8.toInt32)), (.int (((p1.toUInt32 >>> ((24 : Int32) &&& 31).toUInt32).toInt32).toInt8.toInt32))]) (rest := []) (lenOf pd___BIBBBB_Z rfl) rfl (by show 2 * 0 + _ ≤ _; exact Nat.le_of_eq rfl) (hb hby at_169) (fun _ _ => ⟨rfl, rfl, (by decide : 6 + 0 ≤ _), (by decide : 138 + 0 ≤ _)⟩)
  dsimp only [Pt.U, Pt.locs, Pt.cells, Pt.slots] at X133 l133 y133 z133 st133 hQ133
  subst l133 y133 z133
  obtain ⟨rfl, N133q, e133⟩ := hQ133
  have N133 := Fr.app N123 N133q
  refine ogoW (fun t k => st133 t k) ?_
  show OwnEndsW _ _ _ _ _ _ _ (T133.setTop (mkF m 172 #[.val (.int p0), .val (.int p1), .val (.int (2 : Int32)), .val (.int (p1.toInt8.toInt32)), .val (.int (((p1.toUInt32 >>> ((8 : Int32) &&& 31).toUInt32).toInt32).toInt8.toInt32)), .val (.int (((p1.toUInt32 >>> ((16 : Int32) &&& 31).toUInt32).toInt32).toInt8.toInt32)), .val (.int (((p1.toUInt32 >>> ((24 : Int32) &&& 31).toUInt32).toInt32).toInt8.toInt32)), .val (.ref b91), .val (.ref r99), .val (.ref r123), .unset] [(.int (1 : Int32))]))
  refine ogoW (fun t k => XS.ifYes X133.here hx rfl (pc0 := 172) (pc' := 177) rfl (hb hby at_172) rfl ((if0 _ _).trans (feq (by decide : ¬ ((1 : Int32) = (0 : Int32)))).2) (by decide) (by decide) k) ?_
  show OwnEndsW _ _ _ _ _ _ _ (T133.setTop (mkF m 177 #[.val (.int p0), .val (.int p1), .val (.int (2 : Int32)), .val (.int (p1.toInt8.toInt32)), .val (.int (((p1.toUInt32 >>> ((8 : Int32) &&& 31).toUInt32).toInt32).toInt8.toInt32)), .val (.int (((p1.toUInt32 >>> ((16 : Int32) &&& 31).toUInt32).toInt32).toInt8.toInt32)), .val (.int (((p1.toUInt32 >>> ((24 : Int32) &&& 31).toUInt32).toInt32).toInt8.toInt32)), .val (.ref b91), .val (.ref r99), .val (.ref r123), .unset] []))
  refine ogoW (fun t k => XS.iloadN X133.here hx rfl (hb hby at_177) rfl k) ?_
  show OwnEndsW _ _ _ _ _ _ _ (T133.setTop (mkF m 178 #[.val (.int p0), .val (.int p1), .val (.int (2 : Int32)), .val (.int (p1.toInt8.toInt32)), .val (.int (((p1.toUInt32 >>> ((8 : Int32) &&& 31).toUInt32).toInt32).toInt8.toInt32)), .val (.int (((p1.toUInt32 >>> ((16 : Int32) &&& 31).toUInt32).toInt32).toInt8.toInt32)), .val (.int (((p1.toUInt32 >>> ((24 : Int32) &&& 31).toUInt32).toInt32).toInt8.toInt32)), .val (.ref b91), .val (.ref r99), .val (.ref r123), .unset] [(.int (2 : Int32))]))
  refine ogoW (fun t k => XS.ifNo X133.here hx rfl (hb hby at_178) rfl ((if0 _ _).trans (tlt (by decide : (0 : Int32) < (2 : Int32))).2.2.2) k) ?_
  show OwnEndsW _ _ _ _ _ _ _ (T133.setTop (mkF m 181 #[.val (.int p0), .val (.int p1), .val (.int (2 : Int32)), .val (.int (p1.toInt8.toInt32)), .val (.int (((p1.toUInt32 >>> ((8 : Int32) &&& 31).toUInt32).toInt32).toInt8.toInt32)), .val (.int (((p1.toUInt32 >>> ((16 : Int32) &&& 31).toUInt32).toInt32).toInt8.toInt32)), .val (.int (((p1.toUInt32 >>> ((24 : Int32) &&& 31).toUInt32).toInt32).toInt8.toInt32)), .val (.ref b91), .val (.ref r99), .val (.ref r123), .unset] []))
  refine ogoW (fun t k => XS.aload X133.here hx rfl (hb hby at_181) rfl rfl k) ?_
  show OwnEndsW _ _ _ _ _ _ _ (T133.setTop (mkF m 183 #[.val (.int p0), .val (.int p1), .val (.int (2 : Int32)), .val (.int (p1.toInt8.toInt32)), .val (.int (((p1.toUInt32 >>> ((8 : Int32) &&& 31).toUInt32).toInt32).toInt8.toInt32)), .val (.int (((p1.toUInt32 >>> ((16 : Int32) &&& 31).toUInt32).toInt32).toInt8.toInt32)), .val (.int (((p1.toUInt32 >>> ((24 : Int32) &&& 31).toUInt32).toInt32).toInt8.toInt32)), .val (.ref b91), .val (.ref r99), .val (.ref r123), .unset] [(.ref r123)]))
  refine ogoW (fun t k => XS.iconst X133.here hx rfl (hb hby at_183) k) ?_
  show OwnEndsW _ _ _ _ _ _ _ (T133.setTop (mkF m 184 #[.val (.int p0), .val (.int p1), .val (.int (2 : Int32)), .val (.int (p1.toInt8.toInt32)), .val (.int (((p1.toUInt32 >>> ((8 : Int32) &&& 31).toUInt32).toInt32).toInt8.toInt32)), .val (.int (((p1.toUInt32 >>> ((16 : Int32) &&& 31).toUInt32).toInt32).toInt8.toInt32)), .val (.int (((p1.toUInt32 >>> ((24 : Int32) &&& 31).toUInt32).toInt32).toInt8.toInt32)), .val (.ref b91), .val (.ref r99), .val (.ref r123), .unset] [(.int (0 : Int32)), (.ref r123)]))
  refine ogoW (fun t k => XS.iloadN X133.here hx rfl (hb hby at_184) rfl k) ?_
  show OwnEndsW _ _ _ _ _ _ _ (T133.setTop (mkF m 185 #[.val (.int p0), .val (.int p1), .val (.int (2 : Int32)), .val (.int (p1.toInt8.toInt32)), .val (.int (((p1.toUInt32 >>> ((8 : Int32) &&& 31).toUInt32).toInt32).toInt8.toInt32)), .val (.int (((p1.toUInt32 >>> ((16 : Int32) &&& 31).toUInt32).toInt32).toInt8.toInt32)), .val (.int (((p1.toUInt32 >>> ((24 : Int32) &&& 31).toUInt32).toInt32).toInt8.toInt32)), .val (.ref b91), .val (.ref r99), .val (.ref r123), .unset] [(.int (p1.toInt8.toInt32)), (.int (0 : Int32)), (.ref r123)]))
  refine ogoW (fun t k => XS.iconst X133.here hx rfl (hb hby at_185) k) ?_
  show OwnEndsW _ _ _ _ _ _ _ (T133.setTop (mkF m 186 #[.val (.int p0), .val (.int p1), .val (.int (2 : Int32)), .val (.int (p1.toInt8.toInt32)), .val (.int (((p1.toUInt32 >>> ((8 : Int32) &&& 31).toUInt32).toInt32).toInt8.toInt32)), .val (.int (((p1.toUInt32 >>> ((16 : Int32) &&& 31).toUInt32).toInt32).toInt8.toInt32)), .val (.int (((p1.toUInt32 >>> ((24 : Int32) &&& 31).toUInt32).toInt32).toInt8.toInt32)), .val (.ref b91), .val (.ref r99), .val (.ref r123), .unset] [(.int (-1 : Int32)), (.int (p1.toInt8.toInt32)), (.int (0 : Int32)), (.ref r123)]))
  refine ogoW (fun t k => XS.ixor X133.here hx rfl (hb hby at_186) rfl k) ?_
  show OwnEndsW _ _ _ _ _ _ _ (T133.setTop (mkF m 187 #[.val (.int p0), .val (.int p1), .val (.int (2 : Int32)), .val (.int (p1.toInt8.toInt32)), .val (.int (((p1.toUInt32 >>> ((8 : Int32) &&& 31).toUInt32).toInt32).toInt8.toInt32)), .val (.int (((p1.toUInt32 >>> ((16 : Int32) &&& 31).toUInt32).toInt32).toInt8.toInt32)), .val (.int (((p1.toUInt32 >>> ((24 : Int32) &&& 31).toUInt32).toInt32).toInt8.toInt32)), .val (.ref b91), .val (.ref r99), .val (.ref r123), .unset] [(.int ((p1.toInt8.toInt32) ^^^ (-1 : Int32))), (.int (0 : Int32)), (.ref r123)]))
  refine ogoW (fun t k => XS.i2b X133.here hx rfl (hb hby at_187) rfl k) ?_
  show OwnEndsW _ _ _ _ _ _ _ (T133.setTop (mkF m 188 #[.val (.int p0), .val (.int p1), .val (.int (2 : Int32)), .val (.int (p1.toInt8.toInt32)), .val (.int (((p1.toUInt32 >>> ((8 : Int32) &&& 31).toUInt32).toInt32).toInt8.toInt32)), .val (.int (((p1.toUInt32 >>> ((16 : Int32) &&& 31).toUInt32).toInt32).toInt8.toInt32)), .val (.int (((p1.toUInt32 >>> ((24 : Int32) &&& 31).toUInt32).toInt32).toInt8.toInt32)), .val (.ref b91), .val (.ref r99), .val (.ref r123), .unset] [(.int (((p1.toInt8.toInt32) ^^^ (-1 : Int32)).toInt8.toInt32)), (.int (0 : Int32)), (.ref r123)]))
  obtain ⟨ak134, cl134, Ar134, Aq134, As134, An134, Ah134, Ag134⟩ := id Vq123
  obtain ⟨T134, h134, X134, e134, W134, st134⟩ := stB X133 hx hZ e133 Ar134 (j := (0 : Int32)) (inb_of As134 ⟨by decide, by decide⟩) (g := (mkF m 188 #[.val (.int p0), .val (.int p1), .val (.int (2 : Int32)), .val (.int (p1.toInt8.toInt32)), .val (.int (((p1.toUInt32 >>> ((8 : Int32) &&& 31).toUInt32).toInt32).toInt8.toInt32)), .val (.int (((p1.toUInt32 >>> ((16 : Int32) &&& 31).toUInt32).toInt32).toInt8.toInt32)), .val (.int (((p1.toUInt32 >>> ((24 : Int32) &&& 31).toUInt32).toInt32).toInt8.toInt32)), .val (.ref b91), .val (.ref r99), .val (.ref r123), .unset] [(.int (((p1.toInt8.toInt32) ^^^ (-1 : Int32)).toInt8.toInt32)), (.int (0 : Int32)), (.ref r123)])) rfl rfl (hb hby at_188)
  rw [own_narb] at W134
  have V134 : Arv Z h134 r123 ak134 .byte (2 : Int32) [(.int (((p1.toInt8.toInt32) ^^^ (-1 : Int32)).toInt8.toInt32)), (.int (((p1.toUInt32 >>> ((8 : Int32) &&& 31).toUInt32).toInt32).toInt8.toInt32))] (.int (0 : Int32)) := Arv.set Ar134 Aq134 As134 An134 Ah134 Ag134 (fits_nar_byte _) W134 0 rfl (Nat.le_of_ble_eq_true rfl)
  have f135 := f124.other W134 ne_b91_r123
  have f136 := f125.wr W134
  have f137 := f126.wr W134
  have f138 := f127.other W134 (Or.inl ne_r99_r123)
  have f139 := f128.other W134 (Or.inl ne_r99_r123)
  have f140 := f129.other W134 ne_x99_r123
  have f141 := f130.wr W134
  have f142 := Eq123.wr W134
  have N143 := Fr.snoc X134 N133 q_r123
  have OLD143 := OLD131.wr W134 q_r123
  have K143 := K131.wr W134 (Or.inr sz_r123)
  have Z143 := Nat.le_trans Z131 (Nat.le_of_eq W134.size.symm)
  have hk144 := Nat.le_trans hk132 (Nat.le_of_eq W134.size.symm)
  refine ogoW st134 ?_
  show OwnEndsW _ _ _ _ _ _ _ (T134.setTop (mkF m 189 #[.val (.int p0), .val (.int p1), .val (.int (2 : Int32)), .val (.int (p1.toInt8.toInt32)), .val (.int (((p1.toUInt32 >>> ((8 : Int32) &&& 31).toUInt32).toInt32).toInt8.toInt32)), .val (.int (((p1.toUInt32 >>> ((16 : Int32) &&& 31).toUInt32).toInt32).toInt8.toInt32)), .val (.int (((p1.toUInt32 >>> ((24 : Int32) &&& 31).toUInt32).toInt32).toInt8.toInt32)), .val (.ref b91), .val (.ref r99), .val (.ref r123), .unset] []))
  refine ogoW (fun t k => XS.iloadN X134.here hx rfl (hb hby at_189) rfl k) ?_
  show OwnEndsW _ _ _ _ _ _ _ (T134.setTop (mkF m 190 #[.val (.int p0), .val (.int p1), .val (.int (2 : Int32)), .val (.int (p1.toInt8.toInt32)), .val (.int (((p1.toUInt32 >>> ((8 : Int32) &&& 31).toUInt32).toInt32).toInt8.toInt32)), .val (.int (((p1.toUInt32 >>> ((16 : Int32) &&& 31).toUInt32).toInt32).toInt8.toInt32)), .val (.int (((p1.toUInt32 >>> ((24 : Int32) &&& 31).toUInt32).toInt32).toInt8.toInt32)), .val (.ref b91), .val (.ref r99), .val (.ref r123), .unset] [(.int (2 : Int32))]))
  refine ogoW (fun t k => XS.iconst X134.here hx rfl (hb hby at_190) k) ?_
  show OwnEndsW _ _ _ _ _ _ _ (T134.setTop (mkF m 191 #[.val (.int p0), .val (.int p1), .val (.int (2 : Int32)), .val (.int (p1.toInt8.toInt32)), .val (.int (((p1.toUInt32 >>> ((8 : Int32) &&& 31).toUInt32).toInt32).toInt8.toInt32)), .val (.int (((p1.toUInt32 >>> ((16 : Int32) &&& 31).toUInt32).toInt32).toInt8.toInt32)), .val (.int (((p1.toUInt32 >>> ((24 : Int32) &&& 31).toUInt32).toInt32).toInt8.toInt32)), .val (.ref b91), .val (.ref r99), .val (.ref r123), .unset] [(.int (1 : Int32)), (.int (2 : Int32))]))
  refine ogoW (fun t k => XS.icmpNo X134.here hx rfl (hb hby at_191) rfl (tlt (by decide : (1 : Int32) < (2 : Int32))).2.2.2 k) ?_
  show OwnEndsW _ _ _ _ _ _ _ (T134.setTop (mkF m 194 #[.val (.int p0), .val (.int p1), .val (.int (2 : Int32)), .val (.int (p1.toInt8.toInt32)), .val (.int (((p1.toUInt32 >>> ((8 : Int32) &&& 31).toUInt32).toInt32).toInt8.toInt32)), .val (.int (((p1.toUInt32 >>> ((16 : Int32) &&& 31).toUInt32).toInt32).toInt8.toInt32)), .val (.int (((p1.toUInt32 >>> ((24 : Int32) &&& 31).toUInt32).toInt32).toInt8.toInt32)), .val (.ref b91), .val (.ref r99), .val (.ref r123), .unset] []))
  refine ogoW (fun t k => XS.aload X134.here hx rfl (hb hby at_194) rfl rfl k) ?_
  show OwnEndsW _ _ _ _ _ _ _ (T134.setTop (mkF m 196 #[.val (.int p0), .val (.int p1), .val (.int (2 : Int32)), .val (.int (p1.toInt8.toInt32)), .val (.int (((p1.toUInt32 >>> ((8 : Int32) &&& 31).toUInt32).toInt32).toInt8.toInt32)), .val (.int (((p1.toUInt32 >>> ((16 : Int32) &&& 31).toUInt32).toInt32).toInt8.toInt32)), .val (.int (((p1.toUInt32 >>> ((24 : Int32) &&& 31).toUInt32).toInt32).toInt8.toInt32)), .val (.ref b91), .val (.ref r99), .val (.ref r123), .unset] [(.ref r123)]))
  refine ogoW (fun t k => XS.iconst X134.here hx rfl (hb hby at_196) k) ?_
  show OwnEndsW _ _ _ _ _ _ _ (T134.setTop (mkF m 197 #[.val (.int p0), .val (.int p1), .val (.int (2 : Int32)), .val (.int (p1.toInt8.toInt32)), .val (.int (((p1.toUInt32 >>> ((8 : Int32) &&& 31).toUInt32).toInt32).toInt8.toInt32)), .val (.int (((p1.toUInt32 >>> ((16 : Int32) &&& 31).toUInt32).toInt32).toInt8.toInt32)), .val (.int (((p1.toUInt32 >>> ((24 : Int32) &&& 31).toUInt32).toInt32).toInt8.toInt32)), .val (.ref b91), .val (.ref r99), .val (.ref r123), .unset] [(.int (1 : Int32)), (.ref r123)]))
  refine ogoW (fun t k => XS.iload X134.here hx rfl (hb hby at_197) rfl k) ?_
  show OwnEndsW _ _ _ _ _ _ _ (T134.setTop (mkF m 199 #[.val (.int p0), .val (.int p1), .val (.int (2 : Int32)), .val (.int (p1.toInt8.toInt32)), .val (.int (((p1.toUInt32 >>> ((8 : Int32) &&& 31).toUInt32).toInt32).toInt8.toInt32)), .val (.int (((p1.toUInt32 >>> ((16 : Int32) &&& 31).toUInt32).toInt32).toInt8.toInt32)), .val (.int (((p1.toUInt32 >>> ((24 : Int32) &&& 31).toUInt32).toInt32).toInt8.toInt32)), .val (.ref b91), .val (.ref r99), .val (.ref r123), .unset] [(.int (((p1.toUInt32 >>> ((8 : Int32) &&& 31).toUInt32).toInt32).toInt8.toInt32)), (.int (1 : Int32)), (.ref r123)]))
  refine ogoW (fun t k => XS.iconst X134.here hx rfl (hb hby at_199) k) ?_
  show OwnEndsW _ _ _ _ _ _ _ (T134.setTop (mkF m 200 #[.val (.int p0), .val (.int p1), .val (.int (2 : Int32)), .val (.int (p1.toInt8.toInt32)), .val (.int (((p1.toUInt32 >>> ((8 : Int32) &&& 31).toUInt32).toInt32).toInt8.toInt32)), .val (.int (((p1.toUInt32 >>> ((16 : Int32) &&& 31).toUInt32).toInt32).toInt8.toInt32)), .val (.int (((p1.toUInt32 >>> ((24 : Int32) &&& 31).toUInt32).toInt32).toInt8.toInt32)), .val (.ref b91), .val (.ref r99), .val (.ref r123), .unset] [(.int (-1 : Int32)), (.int (((p1.toUInt32 >>> ((8 : Int32) &&& 31).toUInt32).toInt32).toInt8.toInt32)), (.int (1 : Int32)), (.ref r123)]))
  refine ogoW (fun t k => XS.ixor X134.here hx rfl (hb hby at_200) rfl k) ?_
  show OwnEndsW _ _ _ _ _ _ _ (T134.setTop (mkF m 201 #[.val (.int p0), .val (.int p1), .val (.int (2 : Int32)), .val (.int (p1.toInt8.toInt32)), .val (.int (((p1.toUInt32 >>> ((8 : Int32) &&& 31).toUInt32).toInt32).toInt8.toInt32)), .val (.int (((p1.toUInt32 >>> ((16 : Int32) &&& 31).toUInt32).toInt32).toInt8.toInt32)), .val (.int (((p1.toUInt32 >>> ((24 : Int32) &&& 31).toUInt32).toInt32).toInt8.toInt32)), .val (.ref b91), .val (.ref r99), .val (.ref r123), .unset] [(.int ((((p1.toUInt32 >>> ((8 : Int32) &&& 31).toUInt32).toInt32).toInt8.toInt32) ^^^ (-1 : Int32))), (.int (1 : Int32)), (.ref r123)]))
  refine ogoW (fun t k => XS.i2b X134.here hx rfl (hb hby at_201) rfl k) ?_
  show OwnEndsW _ _ _ _ _ _ _ (T134.setTop (mkF m 202 #[.val (.int p0), .val (.int p1), .val (.int (2 : Int32)), .val (.int (p1.toInt8.toInt32)), .val (.int (((p1.toUInt32 >>> ((8 : Int32) &&& 31).toUInt32).toInt32).toInt8.toInt32)), .val (.int (((p1.toUInt32 >>> ((16 : Int32) &&& 31).toUInt32).toInt32).toInt8.toInt32)), .val (.int (((p1.toUInt32 >>> ((24 : Int32) &&& 31).toUInt32).toInt32).toInt8.toInt32)), .val (.ref b91), .val (.ref r99), .val (.ref r123), .unset] [(.int (((((p1.toUInt32 >>> ((8 : Int32) &&& 31).toUInt32).toInt32).toInt8.toInt32) ^^^ (-1 : Int32)).toInt8.toInt32)), (.int (1 : Int32)), (.ref r123)]))
  obtain ⟨cl145, Ar145, Aq145, As145, An145, Ah145, Ag145⟩ := id V134
  obtain ⟨T145, h145, X145, e145, W145, st145⟩ := stB X134 hx hZ e134 Ar145 (j := (1 : Int32)) (inb_of As145 ⟨by decide, by decide⟩) (g := (mkF m 202 #[.val (.int p0), .val (.int p1), .val (.int (2 : Int32)), .val (.int (p1.toInt8.toInt32)), .val (.int (((p1.toUInt32 >>> ((8 : Int32) &&& 31).toUInt32).toInt32).toInt8.toInt32)), .val (.int (((p1.toUInt32 >>> ((16 : Int32) &&& 31).toUInt32).toInt32).toInt8.toInt32)), .val (.int (((p1.toUInt32 >>> ((24 : Int32) &&& 31).toUInt32).toInt32).toInt8.toInt32)), .val (.ref b91), .val (.ref r99), .val (.ref r123), .unset] [(.int (((((p1.toUInt32 >>> ((8 : Int32) &&& 31).toUInt32).toInt32).toInt8.toInt32) ^^^ (-1 : Int32)).toInt8.toInt32)), (.int (1 : Int32)), (.ref r123)])) rfl rfl (hb hby at_202)
  rw [own_narb] at W145
  have V145 : Arv Z h145 r123 ak134 .byte (2 : Int32) [(.int (((p1.toInt8.toInt32) ^^^ (-1 : Int32)).toInt8.toInt32)), (.int (((((p1.toUInt32 >>> ((8 : Int32) &&& 31).toUInt32).toInt32).toInt8.toInt32) ^^^ (-1 : Int32)).toInt8.toInt32))] (.int (0 : Int32)) := Arv.set Ar145 Aq145 As145 An145 Ah145 Ag145 (fits_nar_byte _) W145 1 rfl (Nat.le_of_ble_eq_true rfl)
  have f146 := f135.other W145 ne_b91_r123
  have f147 := f136.wr W145
  have f148 := f137.wr W145
  have f149 := f138.other W145 (Or.inl ne_r99_r123)
  have f150 := f139.other W145 (Or.inl ne_r99_r123)
  have f151 := f140.other W145 ne_x99_r123
  have f152 := f141.wr W145
  have f153 := f142.wr W145
  have N154 := Fr.snoc X145 N143 q_r123
  have OLD154 := OLD143.wr W145 q_r123
  have K154 := K143.wr W145 (Or.inr sz_r123)
  have Z154 := Nat.le_trans Z143 (Nat.le_of_eq W145.size.symm)
  have hk155 := Nat.le_trans hk144 (Nat.le_of_eq W145.size.symm)
  refine ogoW st145 ?_
  show OwnEndsW _ _ _ _ _ _ _ (T145.setTop (mkF m 203 #[.val (.int p0), .val (.int p1), .val (.int (2 : Int32)), .val (.int (p1.toInt8.toInt32)), .val (.int (((p1.toUInt32 >>> ((8 : Int32) &&& 31).toUInt32).toInt32).toInt8.toInt32)), .val (.int (((p1.toUInt32 >>> ((16 : Int32) &&& 31).toUInt32).toInt32).toInt8.toInt32)), .val (.int (((p1.toUInt32 >>> ((24 : Int32) &&& 31).toUInt32).toInt32).toInt8.toInt32)), .val (.ref b91), .val (.ref r99), .val (.ref r123), .unset] []))
  refine ogoW (fun t k => XS.iloadN X145.here hx rfl (hb hby at_203) rfl k) ?_
  show OwnEndsW _ _ _ _ _ _ _ (T145.setTop (mkF m 204 #[.val (.int p0), .val (.int p1), .val (.int (2 : Int32)), .val (.int (p1.toInt8.toInt32)), .val (.int (((p1.toUInt32 >>> ((8 : Int32) &&& 31).toUInt32).toInt32).toInt8.toInt32)), .val (.int (((p1.toUInt32 >>> ((16 : Int32) &&& 31).toUInt32).toInt32).toInt8.toInt32)), .val (.int (((p1.toUInt32 >>> ((24 : Int32) &&& 31).toUInt32).toInt32).toInt8.toInt32)), .val (.ref b91), .val (.ref r99), .val (.ref r123), .unset] [(.int (2 : Int32))]))
  refine ogoW (fun t k => XS.iconst X145.here hx rfl (hb hby at_204) k) ?_
  show OwnEndsW _ _ _ _ _ _ _ (T145.setTop (mkF m 205 #[.val (.int p0), .val (.int p1), .val (.int (2 : Int32)), .val (.int (p1.toInt8.toInt32)), .val (.int (((p1.toUInt32 >>> ((8 : Int32) &&& 31).toUInt32).toInt32).toInt8.toInt32)), .val (.int (((p1.toUInt32 >>> ((16 : Int32) &&& 31).toUInt32).toInt32).toInt8.toInt32)), .val (.int (((p1.toUInt32 >>> ((24 : Int32) &&& 31).toUInt32).toInt32).toInt8.toInt32)), .val (.ref b91), .val (.ref r99), .val (.ref r123), .unset] [(.int (2 : Int32)), (.int (2 : Int32))]))
  refine ogoW (fun t k => XS.icmpYes X145.here hx rfl (pc0 := 205) (pc' := 217) rfl (hb hby at_205) rfl (flt (by decide : ¬ ((2 : Int32) < (2 : Int32)))).2.2.2 (by decide) (by decide) k) ?_
  show OwnEndsW _ _ _ _ _ _ _ (T145.setTop (mkF m 217 #[.val (.int p0), .val (.int p1), .val (.int (2 : Int32)), .val (.int (p1.toInt8.toInt32)), .val (.int (((p1.toUInt32 >>> ((8 : Int32) &&& 31).toUInt32).toInt32).toInt8.toInt32)), .val (.int (((p1.toUInt32 >>> ((16 : Int32) &&& 31).toUInt32).toInt32).toInt8.toInt32)), .val (.int (((p1.toUInt32 >>> ((24 : Int32) &&& 31).toUInt32).toInt32).toInt8.toInt32)), .val (.ref b91), .val (.ref r99), .val (.ref r123), .unset] []))
  refine ogoW (fun t k => XS.iloadN X145.here hx rfl (hb hby at_217) rfl k) ?_
  show OwnEndsW _ _ _ _ _ _ _ (T145.setTop (mkF m 218 #[.val (.int p0), .val (.int p1), .val (.int (2 : Int32)), .val (.int (p1.toInt8.toInt32)), .val (.int (((p1.toUInt32 >>> ((8 : Int32) &&& 31).toUInt32).toInt32).toInt8.toInt32)), .val (.int (((p1.toUInt32 >>> ((16 : Int32) &&& 31).toUInt32).toInt32).toInt8.toInt32)), .val (.int (((p1.toUInt32 >>> ((24 : Int32) &&& 31).toUInt32).toInt32).toInt8.toInt32)), .val (.ref b91), .val (.ref r99), .val (.ref r123), .unset] [(.int (2 : Int32))]))
  refine ogoW (fun t k => XS.iconst X145.here hx rfl (hb hby at_218) k) ?_
  show OwnEndsW _ _ _ _ _ _ _ (T145.setTop (mkF m 219 #[.val (.int p0), .val (.int p1), .val (.int (2 : Int32)), .val (.int (p1.toInt8.toInt32)), .val (.int (((p1.toUInt32 >>> ((8 : Int32) &&& 31).toUInt32).toInt32).toInt8.toInt32)), .val (.int (((p1.toUInt32 >>> ((16 : Int32) &&& 31).toUInt32).toInt32).toInt8.toInt32)), .val (.int (((p1.toUInt32 >>> ((24 : Int32) &&& 31).toUInt32).toInt32).toInt8.toInt32)), .val (.ref b91), .val (.ref r99), .val (.ref r123), .unset] [(.int (3 : Int32)), (.int (2 : Int32))]))
  refine ogoW (fun t k => XS.icmpYes X145.here hx rfl (pc0 := 219) (pc' := 231) rfl (hb hby at_219) rfl (flt (by decide : ¬ ((3 : Int32) < (2 : Int32)))).2.2.2 (by decide) (by decide) k) ?_
  show OwnEndsW _ _ _ _ _ _ _ (T145.setTop (mkF m 231 #[.val (.int p0), .val (.int p1), .val (.int (2 : Int32)), .val (.int (p1.toInt8.toInt32)), .val (.int (((p1.toUInt32 >>> ((8 : Int32) &&& 31).toUInt32).toInt32).toInt8.toInt32)), .val (.int (((p1.toUInt32 >>> ((16 : Int32) &&& 31).toUInt32).toInt32).toInt8.toInt32)), .val (.int (((p1.toUInt32 >>> ((24 : Int32) &&& 31).toUInt32).toInt32).toInt8.toInt32)), .val (.ref b91), .val (.ref r99), .val (.ref r123), .unset] []))
  refine ogoW (fun t k => XS.aload X145.here hx rfl (hb hby at_231) rfl rfl k) ?_
  show OwnEndsW _ _ _ _ _ _ _ (T145.setTop (mkF m 233 #[.val (.int p0), .val (.int p1), .val (.int (2 : Int32)), .val (.int (p1.toInt8.toInt32)), .val (.int (((p1.toUInt32 >>> ((8 : Int32) &&& 31).toUInt32).toInt32).toInt8.toInt32)), .val (.int (((p1.toUInt32 >>> ((16 : Int32) &&& 31).toUInt32).toInt32).toInt8.toInt32)), .val (.int (((p1.toUInt32 >>> ((24 : Int32) &&& 31).toUInt32).toInt32).toInt8.toInt32)), .val (.ref b91), .val (.ref r99), .val (.ref r123), .unset] [(.ref r99)]))
  obtain ⟨cq156, kq156, q156a, q156b, q156c⟩ := isOf hZ e145 f148
  obtain ⟨v156, _, ⟨T156, L156, k156, n156⟩, -, X156, ⟨Lc156, hQ156, l156, y156, z156⟩, st156⟩ := X145.virtualBack hx (y := (⟨"com/example/once_guard/onceguard/ClaimResult", "payloadDigest", "()[B"⟩ : MethodName)) (z := (⟨"com/example/once_guard/onceguard/ClaimResult", "payloadDigest", "()[B"⟩ : MethodName)) hown (mvT hZ (hw _ (List.mem_of_getElem? (i := 51) rfl))) (mvT hZ (hw _ (List.mem_of_getElem? (i := 52) rfl))) (notFace_of_selects (args := #[]) (mvT hZ (hw _ (List.mem_of_getElem? (i := 54) rfl)))) (mvT hZ (hw _ (List.mem_of_getElem? (i := 54) rfl))) (mvT hZ (hw _ (List.mem_of_getElem? (i := 53) rfl))) (by decide) (backOf (W := 0) (rm4 l Z a0 hw [] r99 x99 (2 : Int32) [(.int (p1.toInt8.toInt32)), (.int (((p1.toUInt32 >>> ((8 : Int32) &&& 31).toUInt32).toInt32).toInt8.toInt32))] w_IN_PROGRESS w_CLAIMED h145 n0 Z154 OLD154 S_CLAIMED f149 f150 f151 f152 (by decide) (Fld.ne F_ordinal_IN_PROGRESS F_ordinal_CLAIMED (by simp))) hZ (hw _ (List.mem_of_getElem? (i := 55) rfl)) (hw _ (List.mem_of_getElem? (i := 4) rfl)) (by decide) (by decide)) q156a q156c (g := (mkF m 233 #[.val (.int p0), .val (.int p1), .val (.int (2 : Int32)), .val (.int (p1.toInt8.toInt32)), .val (.int (((p1.toUInt32 >>> ((8 : Int32) &&& 31).toUInt32).toInt32).toInt8.toInt32)), .val (.int (((p1.toUInt32 >>> ((16 : Int32) &&& 31).toUInt32).toInt32).toInt8.toInt32)), .val (.int (((p1.toUInt32 >>> ((24 : Int32) &&& 31).toUInt32).toInt32).toInt8.toInt32)), .val (.ref b91), .val (.ref r99), .val (.ref r123), .unset] [(.ref r99)])) rfl (by rw [hml]; rfl) (Steps.refl _) (argsL := []) (rest := []) (lenOf pd____B rfl) rfl (by show 2 * 0 + _ ≤ _; exact Nat.le_of_eq rfl) (hb hby at_233) (fun _ _ => ⟨rfl, e145, (by decide : 6 + 1 ≤ _), (by decide : 138 + 4 ≤ _)⟩)
  dsimp only [Pt.U, Pt.locs, Pt.cells, Pt.slots] at X156 l156 y156 z156 st156 hQ156
  subst l156 y156 z156
  obtain ⟨r156, rfl, Sq156, N156q, Kq156, Vq156, Eq156⟩ := hQ156
  have N156 := Fr.app N154 N156q
  have ne_b91_r156 : b91 ≠ r156 := Nat.ne_of_lt (Nat.lt_of_lt_of_le (f146).lt Sq156)
  have ne_r99_r156 : r99 ≠ r156 := Nat.ne_of_lt (Nat.lt_of_lt_of_le (f148).lt Sq156)
  have ne_x99_r156 : x99 ≠ r156 := Nat.ne_of_lt (Nat.lt_of_lt_of_le (f151).lt Sq156)
  have ne_r123_r156 : r123 ≠ r156 := Nat.ne_of_lt (Nat.lt_of_lt_of_le (V145).lt Sq156)
  have q_r156 : n0 ≤ r156 := Nat.le_trans Z154 Sq156
  have sz_r156 : h0.size ≤ r156 := Nat.le_trans K154.1 Sq156
  have f157 := f146.keep Kq156 nin0
  have f158 := f147.keep Kq156
  have f159 := f148.keep Kq156
  have f160 := f149.keep Kq156 nin0
  have f161 := f150.keep Kq156 nin0
  have f162 := f151.keep Kq156 nin0
  have f163 := f152.keep Kq156
  have f164 := V145.keep Kq156 nin0
  have f165 := f153.keep Kq156
  have OLD166 := OLD154.keep Kq156 all0
  have K166 := K154.trans Kq156 all0
  have Z166 := Nat.le_trans Z154 Kq156.1
  have hk167 := Nat.le_trans hk155 Kq156.1
  refine ogoW (fun t k => st156.trans k) ?_
  show OwnEndsW _ _ _ _ _ _ _ (T156.setTop (mkF m 236 #[.val (.int p0), .val (.int p1), .val (.int (2 : Int32)), .val (.int (p1.toInt8.toInt32)), .val (.int (((p1.toUInt32 >>> ((8 : Int32) &&& 31).toUInt32).toInt32).toInt8.toInt32)), .val (.int (((p1.toUInt32 >>> ((16 : Int32) &&& 31).toUInt32).toInt32).toInt8.toInt32)), .val (.int (((p1.toUInt32 >>> ((24 : Int32) &&& 31).toUInt32).toInt32).toInt8.toInt32)), .val (.ref b91), .val (.ref r99), .val (.ref r123), .unset] [(.ref r156)]))
  refine ogoW (fun t k => XS.astore X156.here hx rfl (hb hby at_236) rfl rfl (l' := #[.val (.int p0), .val (.int p1), .val (.int (2 : Int32)), .val (.int (p1.toInt8.toInt32)), .val (.int (((p1.toUInt32 >>> ((8 : Int32) &&& 31).toUInt32).toInt32).toInt8.toInt32)), .val (.int (((p1.toUInt32 >>> ((16 : Int32) &&& 31).toUInt32).toInt32).toInt8.toInt32)), .val (.int (((p1.toUInt32 >>> ((24 : Int32) &&& 31).toUInt32).toInt32).toInt8.toInt32)), .val (.ref b91), .val (.ref r99), .val (.ref r123), .val (.ref r156)]) rfl k) ?_
  show OwnEndsW _ _ _ _ _ _ _ (T156.setTop (mkF m 238 #[.val (.int p0), .val (.int p1), .val (.int (2 : Int32)), .val (.int (p1.toInt8.toInt32)), .val (.int (((p1.toUInt32 >>> ((8 : Int32) &&& 31).toUInt32).toInt32).toInt8.toInt32)), .val (.int (((p1.toUInt32 >>> ((16 : Int32) &&& 31).toUInt32).toInt32).toInt8.toInt32)), .val (.int (((p1.toUInt32 >>> ((24 : Int32) &&& 31).toUInt32).toInt32).toInt8.toInt32)), .val (.ref b91), .val (.ref r99), .val (.ref r123), .val (.ref r156)] []))
  refine ogoW (fun t k => XS.aload X156.here hx rfl (hb hby at_238) rfl rfl k) ?_
  show OwnEndsW _ _ _ _ _ _ _ (T156.setTop (mkF m 240 #[.val (.int p0), .val (.int p1), .val (.int (2 : Int32)), .val (.int (p1.toInt8.toInt32)), .val (.int (((p1.toUInt32 >>> ((8 : Int32) &&& 31).toUInt32).toInt32).toInt8.toInt32)), .val (.int (((p1.toUInt32 >>> ((16 : Int32) &&& 31).toUInt32).toInt32).toInt8.toInt32)), .val (.int (((p1.toUInt32 >>> ((24 : Int32) &&& 31).toUInt32).toInt32).toInt8.toInt32)), .val (.ref b91), .val (.ref r99), .val (.ref r123), .val (.ref r156)] [(.ref r156)]))
  refine ogoW (fun t k => XS.iloadN X156.here hx rfl (hb hby at_240) rfl k) ?_
  show OwnEndsW _ _ _ _ _ _ _ (T156.setTop (mkF m 241 #[.val (.int p0), .val (.int p1), .val (.int (2 : Int32)), .val (.int (p1.toInt8.toInt32)), .val (.int (((p1.toUInt32 >>> ((8 : Int32) &&& 31).toUInt32).toInt32).toInt8.toInt32)), .val (.int (((p1.toUInt32 >>> ((16 : Int32) &&& 31).toUInt32).toInt32).toInt8.toInt32)), .val (.int (((p1.toUInt32 >>> ((24 : Int32) &&& 31).toUInt32).toInt32).toInt8.toInt32)), .val (.ref b91), .val (.ref r99), .val (.ref r123), .val (.ref r156)] [(.int (2 : Int32)), (.ref r156)]))
  refine ogoW (fun t k => XS.iloadN X156.here hx rfl (hb hby at_241) rfl k) ?_
  show OwnEndsW _ _ _ _ _ _ _ (T156.setTop (mkF m 242 #[.val (.int p0), .val (.int p1), .val (.int (2 : Int32)), .val (.int (p1.toInt8.toInt32)), .val (.int (((p1.toUInt32 >>> ((8 : Int32) &&& 31).toUInt32).toInt32).toInt8.toInt32)), .val (.int (((p1.toUInt32 >>> ((16 : Int32) &&& 31).toUInt32).toInt32).toInt8.toInt32)), .val (.int (((p1.toUInt32 >>> ((24 : Int32) &&& 31).toUInt32).toInt32).toInt8.toInt32)), .val (.ref b91), .val (.ref r99), .val (.ref r123), .val (.ref r156)] [(.int (p1.toInt8.toInt32)), (.int (2 : Int32)), (.ref r156)]))
  refine ogoW (fun t k => XS.iload X156.here hx rfl (hb hby at_242) rfl k) ?_
  show OwnEndsW _ _ _ _ _ _ _ (T156.setTop (mkF m 244 #[.val (.int p0), .val (.int p1), .val (.int (2 : Int32)), .val (.int (p1.toInt8.toInt32)), .val (.int (((p1.toUInt32 >>> ((8 : Int32) &&& 31).toUInt32).toInt32).toInt8.toInt32)), .val (.int (((p1.toUInt32 >>> ((16 : Int32) &&& 31).toUInt32).toInt32).toInt8.toInt32)), .val (.int (((p1.toUInt32 >>> ((24 : Int32) &&& 31).toUInt32).toInt32).toInt8.toInt32)), .val (.ref b91), .val (.ref r99), .val (.ref r123), .val (.ref r156)] [(.int (((p1.toUInt32 >>> ((8 : Int32) &&& 31).toUInt32).toInt32).toInt8.toInt32)), (.int (p1.toInt8.toInt32)), (.int (2 : Int32)), (.ref r156)]))
  refine ogoW (fun t k => XS.iload X156.here hx rfl (hb hby at_244) rfl k) ?_
  show OwnEndsW _ _ _ _ _ _ _ (T156.setTop (mkF m 246 #[.val (.int p0), .val (.int p1), .val (.int (2 : Int32)), .val (.int (p1.toInt8.toInt32)), .val (.int (((p1.toUInt32 >>> ((8 : Int32) &&& 31).toUInt32).toInt32).toInt8.toInt32)), .val (.int (((p1.toUInt32 >>> ((16 : Int32) &&& 31).toUInt32).toInt32).toInt8.toInt32)), .val (.int (((p1.toUInt32 >>> ((24 : Int32) &&& 31).toUInt32).toInt32).toInt8.toInt32)), .val (.ref b91), .val (.ref r99), .val (.ref r123), .val (.ref r156)] [(.int (((p1.toUInt32 >>> ((16 : Int32) &&& 31).toUInt32).toInt32).toInt8.toInt32)), (.int (((p1.toUInt32 >>> ((8 : Int32) &&& 31).toUInt32).toInt32).toInt8.toInt32)), (.int (p1.toInt8.toInt32)), (.int (2 : Int32)), (.ref r156)]))
  refine ogoW (fun t k => XS.iload X156.here hx rfl (hb hby at_246) rfl k) ?_
  show OwnEndsW _ _ _ _ _ _ _ (T156.setTop (mkF m 248 #[.val (.int p0), .val (.int p1), .val (.int (2 : Int32)), .val (.int (p1.toInt8.toInt32)), .val (.int (((p1.toUInt32 >>> ((8 : Int32) &&& 31).toUInt32).toInt32).toInt8.toInt32)), .val (.int (((p1.toUInt32 >>> ((16 : Int32) &&& 31).toUInt32).toInt32).toInt8.toInt32)), .val (.int (((p1.toUInt32 >>> ((24 : Int32) &&& 31).toUInt32).toInt32).toInt8.toInt32)), .val (.ref b91), .val (.ref r99), .val (.ref r123), .val (.ref r156)] [(.int (((p1.toUInt32 >>> ((24 : Int32) &&& 31).toUInt32).toInt32).toInt8.toInt32)), (.int (((p1.toUInt32 >>> ((16 : Int32) &&& 31).toUInt32).toInt32).toInt8.toInt32)), (.int (((p1.toUInt32 >>> ((8 : Int32) &&& 31).toUInt32).toInt32).toInt8.toInt32)), (.int (p1.toInt8.toInt32)), (.int (2 : Int32)), (.ref r156)]))
  obtain ⟨v168, _, ⟨T168, L168, k168, n168⟩, -, X168, ⟨Lc168, hQ168, l168, y168, z168⟩, st168⟩ := Jvm.LawKit.callS X156 hx (y := (⟨"com/example/once_guard/onceguard/ClaimResultInProgressPinLaw", "same", "([BIBBBB)Z"⟩ : MethodName)) hown (mvT hZ (hw _ (List.mem_of_getElem? (i := 58) rfl))) (mvT hZ (hw _ (List.mem_of_getElem? (i := 59) rfl))) (mvT hZ (hw _ (List.mem_of_getElem? (i := 60) rfl))) (mvT hZ (hw _ (List.mem_of_getElem? (i := 61) rfl))) (by decide) (backOf (W := 0) (rm62 l Z a0 hw [] r156 (p1.toInt8.toInt32) (((p1.toUInt32 >>> ((8 : Int32) &&& 31).toUInt32).toInt32).toInt8.toInt32) (((p1.toUInt32 >>> ((16 : Int32) &&& 31).toUInt32).toInt32).toInt8.toInt32) (((p1.toUInt32 >>> ((24 : Int32) &&& 31).toUInt32).toInt32).toInt8.toInt32) T156.heap n0 Z166 Vq156) hZ (hw _ (List.mem_of_getElem? (i := 61) rfl)) (hw _ (List.mem_of_getElem? (i := 60) rfl)) (by decide) (by decide)) (g := (mkF m 248 #[.val (.int p0), .val (.int p1), .val (.int (2 : Int32)), .val (.int (p1.toInt8.toInt32)), .val (.int (((p1.toUInt32 >>> ((8 : Int32) &&& 31).toUInt32).toInt32).toInt8.toInt32)), .val (.int (((p1.toUInt32 >>> ((16 : Int32) &&& 31).toUInt32).toInt32).toInt8.toInt32)), .val (.int (((p1.toUInt32 >>> ((24 : Int32) &&& 31).toUInt32).toInt32).toInt8.toInt32)), .val (.ref b91), .val (.ref r99), .val (.ref r123), .val (.ref r156)] [(.int (((p1.toUInt32 >>> ((24 : Int32) &&& 31).toUInt32).toInt32).toInt8.toInt32)), (.int (((p1.toUInt32 >>> ((16 : Int32) &&& 31).toUInt32).toInt32).toInt8.toInt32)), (.int (((p1.toUInt32 >>> ((8 : Int32) &&& 31).toUInt32).toInt32).toInt8.toInt32)), (.int (p1.toInt8.toInt32)), (.int (2 : Int32)), (.ref r156)])) rfl (by rw [hml]; rfl) (argsL := [(.ref r156), (.int (2 : Int32)), (.int (p1.toInt8.toInt32)), (.int (((p1.toUInt32 >>> ((8 : Int32) &&& 31).toUInt32).toInt32).toInt8.toInt32)), (.int (((p1.toUInt32 >>> ((16 : Int32) &&& 31).toUInt32).toInt32).toInt8.toInt32)), (.int (((p1.toUInt32 >>> ((24 : Int32) &&& 31).toUInt32).toInt32).toInt8.toInt32))]) (rest := []) (lenOf pd___BIBBBB_Z rfl) rfl (by show 2 * 0 + _ ≤ _; exact Nat.le_of_eq rfl) (hb hby at_248) (fun _ _ => ⟨rfl, rfl, (by decide : 7 + 0 ≤ _), (by decide : 142 + 0 ≤ _)⟩)
  dsimp only [Pt.U, Pt.locs, Pt.cells, Pt.slots] at X168 l168 y168 z168 st168 hQ168
  subst l168 y168 z168
  obtain ⟨rfl, N168q, e168⟩ := hQ168
  have N168 := Fr.app N156 N168q
  refine ogoW (fun t k => st168 t k) ?_
  show OwnEndsW _ _ _ _ _ _ _ (T168.setTop (mkF m 251 #[.val (.int p0), .val (.int p1), .val (.int (2 : Int32)), .val (.int (p1.toInt8.toInt32)), .val (.int (((p1.toUInt32 >>> ((8 : Int32) &&& 31).toUInt32).toInt32).toInt8.toInt32)), .val (.int (((p1.toUInt32 >>> ((16 : Int32) &&& 31).toUInt32).toInt32).toInt8.toInt32)), .val (.int (((p1.toUInt32 >>> ((24 : Int32) &&& 31).toUInt32).toInt32).toInt8.toInt32)), .val (.ref b91), .val (.ref r99), .val (.ref r123), .val (.ref r156)] [(.int (1 : Int32))]))
  refine endZW X168 hS99 (by rw [e168]; exact hk167) hx hlk hret rfl (hb hby at_251) (by decide) (by decide) ?_
  show Q0 Z p0 p1 w_IN_PROGRESS w_CLAIMED h0 n0 _ T168.heap _
  rw [e168]
  exact ⟨rfl, N168⟩
set_option maxRecDepth 65536 in
set_option maxHeartbeats 40000000 in
theorem tn0_k3 {p : Program} {l : Launch} {e : Env} {s : State} {m : MethodId} {args : Array Value} {below : List Frame} {meth : Method} {c : Code} {locs : List Loc} (Z : State) (a0 : Array Value) (hw : ∀ d ∈ tables_1, d.before a0 Z = true) (p0 p1 : Int32) (w_IN_PROGRESS w_CLAIMED : Addr) (h0 : Heap) (n0 : Nat) (OLD : Old Z n0 h0) (S_IN_PROGRESS : Sta Z Z.heap "com/example/once_guard/onceguard/ClaimResult$State" "IN_PROGRESS" "Lcom/example/once_guard/onceguard/ClaimResult$State;" (.ref w_IN_PROGRESS)) (E_IN_PROGRESS : Exa Z Z.heap w_IN_PROGRESS "com/example/once_guard/onceguard/ClaimResult$State") (F_ordinal_IN_PROGRESS : Fld Z Z.heap w_IN_PROGRESS "java/lang/Enum" "ordinal" "I" (.int (1 : Int32))) (S_CLAIMED : Sta Z Z.heap "com/example/once_guard/onceguard/ClaimResult$State" "CLAIMED" "Lcom/example/once_guard/onceguard/ClaimResult$State;" (.ref w_CLAIMED)) (E_CLAIMED : Exa Z Z.heap w_CLAIMED "com/example/once_guard/onceguard/ClaimResult$State") (F_ordinal_CLAIMED : Fld Z Z.heap w_CLAIMED "java/lang/Enum" "ordinal" "I" (.int (0 : Int32))) (s₁ : State) (hx : p.tables.exec = Jvm.exec) (hZ : Z.Warmed39 (s.setVm s.vm).vm) (hby : c.code = code) (hml : c.maxLocals = 11) (hown : (s.setVm s.vm).vm.findClass "com/example/once_guard/onceguard/ClaimResultInProgressPinLaw" = some m.cls) (hnm : meth.name = "law") (hlk : meth.locks = false) (hret : meth.sig.returnType = some .boolean) (X0 : Stand p l e room_1 (s.setVm s.vm) m args below meth c s₁ locs 0 0) (e0 : s₁.heap = h0) (N0 : Fr n0 locs) (cKC169 : Keep h0 h0 []) (Z0 : n0 ≤ h0.size) (hS0 : s.Since s.vm 0) :
    OwnEndsW p.tables e below s 24 1152 (Q0 Z p0 p1 w_IN_PROGRESS w_CLAIMED h0 n0) (s₁.setTop (mkF m 6 #[.val (.int p0), .val (.int p1), .unset, .unset, .unset, .unset, .unset, .unset, .unset, .unset, .unset] [(.int (3 : Int32))])) := by
  show OwnEndsW _ _ _ _ _ _ _ (s₁.setTop (mkF m 6 #[.val (.int p0), .val (.int p1), .unset, .unset, .unset, .unset, .unset, .unset, .unset, .unset, .unset] [(.int (3 : Int32))]))
  refine ogoW (fun t k => XS.istoreN X0.here hx rfl (hb hby at_6) rfl (l' := #[.val (.int p0), .val (.int p1), .val (.int (3 : Int32)), .unset, .unset, .unset, .unset, .unset, .unset, .unset, .unset]) rfl k) ?_
  show OwnEndsW _ _ _ _ _ _ _ (s₁.setTop (mkF m 7 #[.val (.int p0), .val (.int p1), .val (.int (3 : Int32)), .unset, .unset, .unset, .unset, .unset, .unset, .unset, .unset] []))
  refine ogoW (fun t k => XS.iloadN X0.here hx rfl (hb hby at_7) rfl k) ?_
  show OwnEndsW _ _ _ _ _ _ _ (s₁.setTop (mkF m 8 #[.val (.int p0), .val (.int p1), .val (.int (3 : Int32)), .unset, .unset, .unset, .unset, .unset, .unset, .unset, .unset] [(.int p1)]))
  refine ogoW (fun t k => XS.i2b X0.here hx rfl (hb hby at_8) rfl k) ?_
  show OwnEndsW _ _ _ _ _ _ _ (s₁.setTop (mkF m 9 #[.val (.int p0), .val (.int p1), .val (.int (3 : Int32)), .unset, .unset, .unset, .unset, .unset, .unset, .unset, .unset] [(.int (p1.toInt8.toInt32))]))
  refine ogoW (fun t k => XS.istoreN X0.here hx rfl (hb hby at_9) rfl (l' := #[.val (.int p0), .val (.int p1), .val (.int (3 : Int32)), .val (.int (p1.toInt8.toInt32)), .unset, .unset, .unset, .unset, .unset, .unset, .unset]) rfl k) ?_
  show OwnEndsW _ _ _ _ _ _ _ (s₁.setTop (mkF m 10 #[.val (.int p0), .val (.int p1), .val (.int (3 : Int32)), .val (.int (p1.toInt8.toInt32)), .unset, .unset, .unset, .unset, .unset, .unset, .unset] []))
  refine ogoW (fun t k => XS.iloadN X0.here hx rfl (hb hby at_10) rfl k) ?_
  show OwnEndsW _ _ _ _ _ _ _ (s₁.setTop (mkF m 11 #[.val (.int p0), .val (.int p1), .val (.int (3 : Int32)), .val (.int (p1.toInt8.toInt32)), .unset, .unset, .unset, .unset, .unset, .unset, .unset] [(.int p1)]))
  refine ogoW (fun t k => XS.bipush X0.here hx rfl (hb hby at_11) k) ?_
  show OwnEndsW _ _ _ _ _ _ _ (s₁.setTop (mkF m 13 #[.val (.int p0), .val (.int p1), .val (.int (3 : Int32)), .val (.int (p1.toInt8.toInt32)), .unset, .unset, .unset, .unset, .unset, .unset, .unset] [(.int (8 : Int32)), (.int p1)]))
  refine ogoW (fun t k => XS.iushr X0.here hx rfl (hb hby at_13) rfl k) ?_
  show OwnEndsW _ _ _ _ _ _ _ (s₁.setTop (mkF m 14 #[.val (.int p0), .val (.int p1), .val (.int (3 : Int32)), .val (.int (p1.toInt8.toInt32)), .unset, .unset, .unset, .unset, .unset, .unset, .unset] [(.int ((p1.toUInt32 >>> ((8 : Int32) &&& 31).toUInt32).toInt32))]))
  refine ogoW (fun t k => XS.i2b X0.here hx rfl (hb hby at_14) rfl k) ?_
  show OwnEndsW _ _ _ _ _ _ _ (s₁.setTop (mkF m 15 #[.val (.int p0), .val (.int p1), .val (.int (3 : Int32)), .val (.int (p1.toInt8.toInt32)), .unset, .unset, .unset, .unset, .unset, .unset, .unset] [(.int (((p1.toUInt32 >>> ((8 : Int32) &&& 31).toUInt32).toInt32).toInt8.toInt32))]))
  refine ogoW (fun t k => XS.istore X0.here hx rfl (hb hby at_15) rfl (l' := #[.val (.int p0), .val (.int p1), .val (.int (3 : Int32)), .val (.int (p1.toInt8.toInt32)), .val (.int (((p1.toUInt32 >>> ((8 : Int32) &&& 31).toUInt32).toInt32).toInt8.toInt32)), .unset, .unset, .unset, .unset, .unset, .unset]) rfl k) ?_
  show OwnEndsW _ _ _ _ _ _ _ (s₁.setTop (mkF m 17 #[.val (.int p0), .val (.int p1), .val (.int (3 : Int32)), .val (.int (p1.toInt8.toInt32)), .val (.int (((p1.toUInt32 >>> ((8 : Int32) &&& 31).toUInt32).toInt32).toInt8.toInt32)), .unset, .unset, .unset, .unset, .unset, .unset] []))
  refine ogoW (fun t k => XS.iloadN X0.here hx rfl (hb hby at_17) rfl k) ?_
  show OwnEndsW _ _ _ _ _ _ _ (s₁.setTop (mkF m 18 #[.val (.int p0), .val (.int p1), .val (.int (3 : Int32)), .val (.int (p1.toInt8.toInt32)), .val (.int (((p1.toUInt32 >>> ((8 : Int32) &&& 31).toUInt32).toInt32).toInt8.toInt32)), .unset, .unset, .unset, .unset, .unset, .unset] [(.int p1)]))
  refine ogoW (fun t k => XS.bipush X0.here hx rfl (hb hby at_18) k) ?_
  show OwnEndsW _ _ _ _ _ _ _ (s₁.setTop (mkF m 20 #[.val (.int p0), .val (.int p1), .val (.int (3 : Int32)), .val (.int (p1.toInt8.toInt32)), .val (.int (((p1.toUInt32 >>> ((8 : Int32) &&& 31).toUInt32).toInt32).toInt8.toInt32)), .unset, .unset, .unset, .unset, .unset, .unset] [(.int (16 : Int32)), (.int p1)]))
  refine ogoW (fun t k => XS.iushr X0.here hx rfl (hb hby at_20) rfl k) ?_
  show OwnEndsW _ _ _ _ _ _ _ (s₁.setTop (mkF m 21 #[.val (.int p0), .val (.int p1), .val (.int (3 : Int32)), .val (.int (p1.toInt8.toInt32)), .val (.int (((p1.toUInt32 >>> ((8 : Int32) &&& 31).toUInt32).toInt32).toInt8.toInt32)), .unset, .unset, .unset, .unset, .unset, .unset] [(.int ((p1.toUInt32 >>> ((16 : Int32) &&& 31).toUInt32).toInt32))]))
  refine ogoW (fun t k => XS.i2b X0.here hx rfl (hb hby at_21) rfl k) ?_
  show OwnEndsW _ _ _ _ _ _ _ (s₁.setTop (mkF m 22 #[.val (.int p0), .val (.int p1), .val (.int (3 : Int32)), .val (.int (p1.toInt8.toInt32)), .val (.int (((p1.toUInt32 >>> ((8 : Int32) &&& 31).toUInt32).toInt32).toInt8.toInt32)), .unset, .unset, .unset, .unset, .unset, .unset] [(.int (((p1.toUInt32 >>> ((16 : Int32) &&& 31).toUInt32).toInt32).toInt8.toInt32))]))
  refine ogoW (fun t k => XS.istore X0.here hx rfl (hb hby at_22) rfl (l' := #[.val (.int p0), .val (.int p1), .val (.int (3 : Int32)), .val (.int (p1.toInt8.toInt32)), .val (.int (((p1.toUInt32 >>> ((8 : Int32) &&& 31).toUInt32).toInt32).toInt8.toInt32)), .val (.int (((p1.toUInt32 >>> ((16 : Int32) &&& 31).toUInt32).toInt32).toInt8.toInt32)), .unset, .unset, .unset, .unset, .unset]) rfl k) ?_
  show OwnEndsW _ _ _ _ _ _ _ (s₁.setTop (mkF m 24 #[.val (.int p0), .val (.int p1), .val (.int (3 : Int32)), .val (.int (p1.toInt8.toInt32)), .val (.int (((p1.toUInt32 >>> ((8 : Int32) &&& 31).toUInt32).toInt32).toInt8.toInt32)), .val (.int (((p1.toUInt32 >>> ((16 : Int32) &&& 31).toUInt32).toInt32).toInt8.toInt32)), .unset, .unset, .unset, .unset, .unset] []))
  refine ogoW (fun t k => XS.iloadN X0.here hx rfl (hb hby at_24) rfl k) ?_
  show OwnEndsW _ _ _ _ _ _ _ (s₁.setTop (mkF m 25 #[.val (.int p0), .val (.int p1), .val (.int (3 : Int32)), .val (.int (p1.toInt8.toInt32)), .val (.int (((p1.toUInt32 >>> ((8 : Int32) &&& 31).toUInt32).toInt32).toInt8.toInt32)), .val (.int (((p1.toUInt32 >>> ((16 : Int32) &&& 31).toUInt32).toInt32).toInt8.toInt32)), .unset, .unset, .unset, .unset, .unset] [(.int p1)]))
  refine ogoW (fun t k => XS.bipush X0.here hx rfl (hb hby at_25) k) ?_
  show OwnEndsW _ _ _ _ _ _ _ (s₁.setTop (mkF m 27 #[.val (.int p0), .val (.int p1), .val (.int (3 : Int32)), .val (.int (p1.toInt8.toInt32)), .val (.int (((p1.toUInt32 >>> ((8 : Int32) &&& 31).toUInt32).toInt32).toInt8.toInt32)), .val (.int (((p1.toUInt32 >>> ((16 : Int32) &&& 31).toUInt32).toInt32).toInt8.toInt32)), .unset, .unset, .unset, .unset, .unset] [(.int (24 : Int32)), (.int p1)]))
  refine ogoW (fun t k => XS.iushr X0.here hx rfl (hb hby at_27) rfl k) ?_
  show OwnEndsW _ _ _ _ _ _ _ (s₁.setTop (mkF m 28 #[.val (.int p0), .val (.int p1), .val (.int (3 : Int32)), .val (.int (p1.toInt8.toInt32)), .val (.int (((p1.toUInt32 >>> ((8 : Int32) &&& 31).toUInt32).toInt32).toInt8.toInt32)), .val (.int (((p1.toUInt32 >>> ((16 : Int32) &&& 31).toUInt32).toInt32).toInt8.toInt32)), .unset, .unset, .unset, .unset, .unset] [(.int ((p1.toUInt32 >>> ((24 : Int32) &&& 31).toUInt32).toInt32))]))
  refine ogoW (fun t k => XS.i2b X0.here hx rfl (hb hby at_28) rfl k) ?_
  show OwnEndsW _ _ _ _ _ _ _ (s₁.setTop (mkF m 29 #[.val (.int p0), .val (.int p1), .val (.int (3 : Int32)), .val (.int (p1.toInt8.toInt32)), .val (.int (((p1.toUInt32 >>> ((8 : Int32) &&& 31).toUInt32).toInt32).toInt8.toInt32)), .val (.int (((p1.toUInt32 >>> ((16 : Int32) &&& 31).toUInt32).toInt32).toInt8.toInt32)), .unset, .unset, .unset, .unset, .unset] [(.int (((p1.toUInt32 >>> ((24 : Int32) &&& 31).toUInt32).toInt32).toInt8.toInt32))]))
  refine ogoW (fun t k => XS.istore X0.here hx rfl (hb hby at_29) rfl (l' := #[.val (.int p0), .val (.int p1), .val (.int (3 : Int32)), .val (.int (p1.toInt8.toInt32)), .val (.int (((p1.toUInt32 >>> ((8 : Int32) &&& 31).toUInt32).toInt32).toInt8.toInt32)), .val (.int (((p1.toUInt32 >>> ((16 : Int32) &&& 31).toUInt32).toInt32).toInt8.toInt32)), .val (.int (((p1.toUInt32 >>> ((24 : Int32) &&& 31).toUInt32).toInt32).toInt8.toInt32)), .unset, .unset, .unset, .unset]) rfl k) ?_
  show OwnEndsW _ _ _ _ _ _ _ (s₁.setTop (mkF m 31 #[.val (.int p0), .val (.int p1), .val (.int (3 : Int32)), .val (.int (p1.toInt8.toInt32)), .val (.int (((p1.toUInt32 >>> ((8 : Int32) &&& 31).toUInt32).toInt32).toInt8.toInt32)), .val (.int (((p1.toUInt32 >>> ((16 : Int32) &&& 31).toUInt32).toInt32).toInt8.toInt32)), .val (.int (((p1.toUInt32 >>> ((24 : Int32) &&& 31).toUInt32).toInt32).toInt8.toInt32)), .unset, .unset, .unset, .unset] []))
  refine ogoW (fun t k => XS.iloadN X0.here hx rfl (hb hby at_31) rfl k) ?_
  show OwnEndsW _ _ _ _ _ _ _ (s₁.setTop (mkF m 32 #[.val (.int p0), .val (.int p1), .val (.int (3 : Int32)), .val (.int (p1.toInt8.toInt32)), .val (.int (((p1.toUInt32 >>> ((8 : Int32) &&& 31).toUInt32).toInt32).toInt8.toInt32)), .val (.int (((p1.toUInt32 >>> ((16 : Int32) &&& 31).toUInt32).toInt32).toInt8.toInt32)), .val (.int (((p1.toUInt32 >>> ((24 : Int32) &&& 31).toUInt32).toInt32).toInt8.toInt32)), .unset, .unset, .unset, .unset] [(.int (3 : Int32))]))
  obtain ⟨T170, h170, k170, X170, e170, E170, A170, B170, st170⟩ := newPE X0 hx hZ (hw _ (List.mem_of_getElem? (i := 1) rfl)) e0 (g := (mkF m 32 #[.val (.int p0), .val (.int p1), .val (.int (3 : Int32)), .val (.int (p1.toInt8.toInt32)), .val (.int (((p1.toUInt32 >>> ((8 : Int32) &&& 31).toUInt32).toInt32).toInt8.toInt32)), .val (.int (((p1.toUInt32 >>> ((16 : Int32) &&& 31).toUInt32).toInt32).toInt8.toInt32)), .val (.int (((p1.toUInt32 >>> ((24 : Int32) &&& 31).toUInt32).toInt32).toInt8.toInt32)), .unset, .unset, .unset, .unset] [(.int (3 : Int32))])) rfl (hb hby at_32) rfl (by decide) (cap := 3) (by decide) (by decide) (by decide) (by decide) (ad := "[B") (by decide)
  obtain ⟨b170, g170⟩ : ∃ z, z = h0.size := ⟨_, rfl⟩
  rw [← g170] at A170 B170 st170
  have q_b170 : n0 ≤ b170 := Nat.le_trans Z0 (Nat.le_of_eq g170.symm)
  have sz_b170 : h0.size ≤ b170 := Nat.le_trans cKC169.1 (Nat.le_of_eq g170.symm)
  have OLD171 := OLD.ext E170
  have K171 := cKC169.ext E170
  have Z171 := Nat.le_trans Z0 E170.1
  have V170 : Arv Z h170 b170 k170 .byte (3 : Int32) [(.int (0 : Int32)), (.int (0 : Int32)), (.int (0 : Int32))] (.int (0 : Int32)) := (Arv.new A170 (by decide)).pad (pad_rep [] (.int (0 : Int32)) 3)
  refine ogoW st170 ?_
  show OwnEndsW _ _ _ _ _ _ _ (T170.setTop (mkF m 34 #[.val (.int p0), .val (.int p1), .val (.int (3 : Int32)), .val (.int (p1.toInt8.toInt32)), .val (.int (((p1.toUInt32 >>> ((8 : Int32) &&& 31).toUInt32).toInt32).toInt8.toInt32)), .val (.int (((p1.toUInt32 >>> ((16 : Int32) &&& 31).toUInt32).toInt32).toInt8.toInt32)), .val (.int (((p1.toUInt32 >>> ((24 : Int32) &&& 31).toUInt32).toInt32).toInt8.toInt32)), .unset, .unset, .unset, .unset] [(.ref b170)]))
  refine ogoW (fun t k => XS.astore X170.here hx rfl (hb hby at_34) rfl rfl (l' := #[.val (.int p0), .val (.int p1), .val (.int (3 : Int32)), .val (.int (p1.toInt8.toInt32)), .val (.int (((p1.toUInt32 >>> ((8 : Int32) &&& 31).toUInt32).toInt32).toInt8.toInt32)), .val (.int (((p1.toUInt32 >>> ((16 : Int32) &&& 31).toUInt32).toInt32).toInt8.toInt32)), .val (.int (((p1.toUInt32 >>> ((24 : Int32) &&& 31).toUInt32).toInt32).toInt8.toInt32)), .val (.ref b170), .unset, .unset, .unset]) rfl k) ?_
  show OwnEndsW _ _ _ _ _ _ _ (T170.setTop (mkF m 36 #[.val (.int p0), .val (.int p1), .val (.int (3 : Int32)), .val (.int (p1.toInt8.toInt32)), .val (.int (((p1.toUInt32 >>> ((8 : Int32) &&& 31).toUInt32).toInt32).toInt8.toInt32)), .val (.int (((p1.toUInt32 >>> ((16 : Int32) &&& 31).toUInt32).toInt32).toInt8.toInt32)), .val (.int (((p1.toUInt32 >>> ((24 : Int32) &&& 31).toUInt32).toInt32).toInt8.toInt32)), .val (.ref b170), .unset, .unset, .unset] []))
  refine ogoW (fun t k => XS.iloadN X170.here hx rfl (hb hby at_36) rfl k) ?_
  show OwnEndsW _ _ _ _ _ _ _ (T170.setTop (mkF m 37 #[.val (.int p0), .val (.int p1), .val (.int (3 : Int32)), .val (.int (p1.toInt8.toInt32)), .val (.int (((p1.toUInt32 >>> ((8 : Int32) &&& 31).toUInt32).toInt32).toInt8.toInt32)), .val (.int (((p1.toUInt32 >>> ((16 : Int32) &&& 31).toUInt32).toInt32).toInt8.toInt32)), .val (.int (((p1.toUInt32 >>> ((24 : Int32) &&& 31).toUInt32).toInt32).toInt8.toInt32)), .val (.ref b170), .unset, .unset, .unset] [(.int (3 : Int32))]))
  refine ogoW (fun t k => XS.ifNo X170.here hx rfl (hb hby at_37) rfl ((if0 _ _).trans (tlt (by decide : (0 : Int32) < (3 : Int32))).2.2.2) k) ?_
  show OwnEndsW _ _ _ _ _ _ _ (T170.setTop (mkF m 40 #[.val (.int p0), .val (.int p1), .val (.int (3 : Int32)), .val (.int (p1.toInt8.toInt32)), .val (.int (((p1.toUInt32 >>> ((8 : Int32) &&& 31).toUInt32).toInt32).toInt8.toInt32)), .val (.int (((p1.toUInt32 >>> ((16 : Int32) &&& 31).toUInt32).toInt32).toInt8.toInt32)), .val (.int (((p1.toUInt32 >>> ((24 : Int32) &&& 31).toUInt32).toInt32).toInt8.toInt32)), .val (.ref b170), .unset, .unset, .unset] []))
  refine ogoW (fun t k => XS.aload X170.here hx rfl (hb hby at_40) rfl rfl k) ?_
  show OwnEndsW _ _ _ _ _ _ _ (T170.setTop (mkF m 42 #[.val (.int p0), .val (.int p1), .val (.int (3 : Int32)), .val (.int (p1.toInt8.toInt32)), .val (.int (((p1.toUInt32 >>> ((8 : Int32) &&& 31).toUInt32).toInt32).toInt8.toInt32)), .val (.int (((p1.toUInt32 >>> ((16 : Int32) &&& 31).toUInt32).toInt32).toInt8.toInt32)), .val (.int (((p1.toUInt32 >>> ((24 : Int32) &&& 31).toUInt32).toInt32).toInt8.toInt32)), .val (.ref b170), .unset, .unset, .unset] [(.ref b170)]))
  refine ogoW (fun t k => XS.iconst X170.here hx rfl (hb hby at_42) k) ?_
  show OwnEndsW _ _ _ _ _ _ _ (T170.setTop (mkF m 43 #[.val (.int p0), .val (.int p1), .val (.int (3 : Int32)), .val (.int (p1.toInt8.toInt32)), .val (.int (((p1.toUInt32 >>> ((8 : Int32) &&& 31).toUInt32).toInt32).toInt8.toInt32)), .val (.int (((p1.toUInt32 >>> ((16 : Int32) &&& 31).toUInt32).toInt32).toInt8.toInt32)), .val (.int (((p1.toUInt32 >>> ((24 : Int32) &&& 31).toUInt32).toInt32).toInt8.toInt32)), .val (.ref b170), .unset, .unset, .unset] [(.int (0 : Int32)), (.ref b170)]))
  refine ogoW (fun t k => XS.iloadN X170.here hx rfl (hb hby at_43) rfl k) ?_
  show OwnEndsW _ _ _ _ _ _ _ (T170.setTop (mkF m 44 #[.val (.int p0), .val (.int p1), .val (.int (3 : Int32)), .val (.int (p1.toInt8.toInt32)), .val (.int (((p1.toUInt32 >>> ((8 : Int32) &&& 31).toUInt32).toInt32).toInt8.toInt32)), .val (.int (((p1.toUInt32 >>> ((16 : Int32) &&& 31).toUInt32).toInt32).toInt8.toInt32)), .val (.int (((p1.toUInt32 >>> ((24 : Int32) &&& 31).toUInt32).toInt32).toInt8.toInt32)), .val (.ref b170), .unset, .unset, .unset] [(.int (p1.toInt8.toInt32)), (.int (0 : Int32)), (.ref b170)]))
  obtain ⟨cl172, Ar172, Aq172, As172, An172, Ah172, Ag172⟩ := id V170
  obtain ⟨T172, h172, X172, e172, W172, st172⟩ := stB X170 hx hZ e170 Ar172 (j := (0 : Int32)) (inb_of As172 ⟨by decide, by decide⟩) (g := (mkF m 44 #[.val (.int p0), .val (.int p1), .val (.int (3 : Int32)), .val (.int (p1.toInt8.toInt32)), .val (.int (((p1.toUInt32 >>> ((8 : Int32) &&& 31).toUInt32).toInt32).toInt8.toInt32)), .val (.int (((p1.toUInt32 >>> ((16 : Int32) &&& 31).toUInt32).toInt32).toInt8.toInt32)), .val (.int (((p1.toUInt32 >>> ((24 : Int32) &&& 31).toUInt32).toInt32).toInt8.toInt32)), .val (.ref b170), .unset, .unset, .unset] [(.int (p1.toInt8.toInt32)), (.int (0 : Int32)), (.ref b170)])) rfl rfl (hb hby at_44)
  rw [own_narb] at W172
  have V172 : Arv Z h172 b170 k170 .byte (3 : Int32) [(.int (p1.toInt8.toInt32)), (.int (0 : Int32)), (.int (0 : Int32))] (.int (0 : Int32)) := Arv.set Ar172 Aq172 As172 An172 Ah172 Ag172 (fits_nar_byte _) W172 0 rfl (Nat.le_of_ble_eq_true rfl)
  have f173 := B170.wr W172
  have N174 := Fr.snoc X172 N0 q_b170
  have OLD174 := OLD171.wr W172 q_b170
  have K174 := K171.wr W172 (Or.inr sz_b170)
  have Z174 := Nat.le_trans Z171 (Nat.le_of_eq W172.size.symm)
  refine ogoW st172 ?_
  show OwnEndsW _ _ _ _ _ _ _ (T172.setTop (mkF m 45 #[.val (.int p0), .val (.int p1), .val (.int (3 : Int32)), .val (.int (p1.toInt8.toInt32)), .val (.int (((p1.toUInt32 >>> ((8 : Int32) &&& 31).toUInt32).toInt32).toInt8.toInt32)), .val (.int (((p1.toUInt32 >>> ((16 : Int32) &&& 31).toUInt32).toInt32).toInt8.toInt32)), .val (.int (((p1.toUInt32 >>> ((24 : Int32) &&& 31).toUInt32).toInt32).toInt8.toInt32)), .val (.ref b170), .unset, .unset, .unset] []))
  refine ogoW (fun t k => XS.iloadN X172.here hx rfl (hb hby at_45) rfl k) ?_
  show OwnEndsW _ _ _ _ _ _ _ (T172.setTop (mkF m 46 #[.val (.int p0), .val (.int p1), .val (.int (3 : Int32)), .val (.int (p1.toInt8.toInt32)), .val (.int (((p1.toUInt32 >>> ((8 : Int32) &&& 31).toUInt32).toInt32).toInt8.toInt32)), .val (.int (((p1.toUInt32 >>> ((16 : Int32) &&& 31).toUInt32).toInt32).toInt8.toInt32)), .val (.int (((p1.toUInt32 >>> ((24 : Int32) &&& 31).toUInt32).toInt32).toInt8.toInt32)), .val (.ref b170), .unset, .unset, .unset] [(.int (3 : Int32))]))
  refine ogoW (fun t k => XS.iconst X172.here hx rfl (hb hby at_46) k) ?_
  show OwnEndsW _ _ _ _ _ _ _ (T172.setTop (mkF m 47 #[.val (.int p0), .val (.int p1), .val (.int (3 : Int32)), .val (.int (p1.toInt8.toInt32)), .val (.int (((p1.toUInt32 >>> ((8 : Int32) &&& 31).toUInt32).toInt32).toInt8.toInt32)), .val (.int (((p1.toUInt32 >>> ((16 : Int32) &&& 31).toUInt32).toInt32).toInt8.toInt32)), .val (.int (((p1.toUInt32 >>> ((24 : Int32) &&& 31).toUInt32).toInt32).toInt8.toInt32)), .val (.ref b170), .unset, .unset, .unset] [(.int (1 : Int32)), (.int (3 : Int32))]))
  refine ogoW (fun t k => XS.icmpNo X172.here hx rfl (hb hby at_47) rfl (tlt (by decide : (1 : Int32) < (3 : Int32))).2.2.2 k) ?_
  show OwnEndsW _ _ _ _ _ _ _ (T172.setTop (mkF m 50 #[.val (.int p0), .val (.int p1), .val (.int (3 : Int32)), .val (.int (p1.toInt8.toInt32)), .val (.int (((p1.toUInt32 >>> ((8 : Int32) &&& 31).toUInt32).toInt32).toInt8.toInt32)), .val (.int (((p1.toUInt32 >>> ((16 : Int32) &&& 31).toUInt32).toInt32).toInt8.toInt32)), .val (.int (((p1.toUInt32 >>> ((24 : Int32) &&& 31).toUInt32).toInt32).toInt8.toInt32)), .val (.ref b170), .unset, .unset, .unset] []))
  refine ogoW (fun t k => XS.aload X172.here hx rfl (hb hby at_50) rfl rfl k) ?_
  show OwnEndsW _ _ _ _ _ _ _ (T172.setTop (mkF m 52 #[.val (.int p0), .val (.int p1), .val (.int (3 : Int32)), .val (.int (p1.toInt8.toInt32)), .val (.int (((p1.toUInt32 >>> ((8 : Int32) &&& 31).toUInt32).toInt32).toInt8.toInt32)), .val (.int (((p1.toUInt32 >>> ((16 : Int32) &&& 31).toUInt32).toInt32).toInt8.toInt32)), .val (.int (((p1.toUInt32 >>> ((24 : Int32) &&& 31).toUInt32).toInt32).toInt8.toInt32)), .val (.ref b170), .unset, .unset, .unset] [(.ref b170)]))
  refine ogoW (fun t k => XS.iconst X172.here hx rfl (hb hby at_52) k) ?_
  show OwnEndsW _ _ _ _ _ _ _ (T172.setTop (mkF m 53 #[.val (.int p0), .val (.int p1), .val (.int (3 : Int32)), .val (.int (p1.toInt8.toInt32)), .val (.int (((p1.toUInt32 >>> ((8 : Int32) &&& 31).toUInt32).toInt32).toInt8.toInt32)), .val (.int (((p1.toUInt32 >>> ((16 : Int32) &&& 31).toUInt32).toInt32).toInt8.toInt32)), .val (.int (((p1.toUInt32 >>> ((24 : Int32) &&& 31).toUInt32).toInt32).toInt8.toInt32)), .val (.ref b170), .unset, .unset, .unset] [(.int (1 : Int32)), (.ref b170)]))
  refine ogoW (fun t k => XS.iload X172.here hx rfl (hb hby at_53) rfl k) ?_
  show OwnEndsW _ _ _ _ _ _ _ (T172.setTop (mkF m 55 #[.val (.int p0), .val (.int p1), .val (.int (3 : Int32)), .val (.int (p1.toInt8.toInt32)), .val (.int (((p1.toUInt32 >>> ((8 : Int32) &&& 31).toUInt32).toInt32).toInt8.toInt32)), .val (.int (((p1.toUInt32 >>> ((16 : Int32) &&& 31).toUInt32).toInt32).toInt8.toInt32)), .val (.int (((p1.toUInt32 >>> ((24 : Int32) &&& 31).toUInt32).toInt32).toInt8.toInt32)), .val (.ref b170), .unset, .unset, .unset] [(.int (((p1.toUInt32 >>> ((8 : Int32) &&& 31).toUInt32).toInt32).toInt8.toInt32)), (.int (1 : Int32)), (.ref b170)]))
  obtain ⟨cl175, Ar175, Aq175, As175, An175, Ah175, Ag175⟩ := id V172
  obtain ⟨T175, h175, X175, e175, W175, st175⟩ := stB X172 hx hZ e172 Ar175 (j := (1 : Int32)) (inb_of As175 ⟨by decide, by decide⟩) (g := (mkF m 55 #[.val (.int p0), .val (.int p1), .val (.int (3 : Int32)), .val (.int (p1.toInt8.toInt32)), .val (.int (((p1.toUInt32 >>> ((8 : Int32) &&& 31).toUInt32).toInt32).toInt8.toInt32)), .val (.int (((p1.toUInt32 >>> ((16 : Int32) &&& 31).toUInt32).toInt32).toInt8.toInt32)), .val (.int (((p1.toUInt32 >>> ((24 : Int32) &&& 31).toUInt32).toInt32).toInt8.toInt32)), .val (.ref b170), .unset, .unset, .unset] [(.int (((p1.toUInt32 >>> ((8 : Int32) &&& 31).toUInt32).toInt32).toInt8.toInt32)), (.int (1 : Int32)), (.ref b170)])) rfl rfl (hb hby at_55)
  rw [own_narb] at W175
  have V175 : Arv Z h175 b170 k170 .byte (3 : Int32) [(.int (p1.toInt8.toInt32)), (.int (((p1.toUInt32 >>> ((8 : Int32) &&& 31).toUInt32).toInt32).toInt8.toInt32)), (.int (0 : Int32))] (.int (0 : Int32)) := Arv.set Ar175 Aq175 As175 An175 Ah175 Ag175 (fits_nar_byte _) W175 1 rfl (Nat.le_of_ble_eq_true rfl)
  have f176 := f173.wr W175
  have N177 := Fr.snoc X175 N174 q_b170
  have OLD177 := OLD174.wr W175 q_b170
  have K177 := K174.wr W175 (Or.inr sz_b170)
  have Z177 := Nat.le_trans Z174 (Nat.le_of_eq W175.size.symm)
  refine ogoW st175 ?_
  show OwnEndsW _ _ _ _ _ _ _ (T175.setTop (mkF m 56 #[.val (.int p0), .val (.int p1), .val (.int (3 : Int32)), .val (.int (p1.toInt8.toInt32)), .val (.int (((p1.toUInt32 >>> ((8 : Int32) &&& 31).toUInt32).toInt32).toInt8.toInt32)), .val (.int (((p1.toUInt32 >>> ((16 : Int32) &&& 31).toUInt32).toInt32).toInt8.toInt32)), .val (.int (((p1.toUInt32 >>> ((24 : Int32) &&& 31).toUInt32).toInt32).toInt8.toInt32)), .val (.ref b170), .unset, .unset, .unset] []))
  refine ogoW (fun t k => XS.iloadN X175.here hx rfl (hb hby at_56) rfl k) ?_
  show OwnEndsW _ _ _ _ _ _ _ (T175.setTop (mkF m 57 #[.val (.int p0), .val (.int p1), .val (.int (3 : Int32)), .val (.int (p1.toInt8.toInt32)), .val (.int (((p1.toUInt32 >>> ((8 : Int32) &&& 31).toUInt32).toInt32).toInt8.toInt32)), .val (.int (((p1.toUInt32 >>> ((16 : Int32) &&& 31).toUInt32).toInt32).toInt8.toInt32)), .val (.int (((p1.toUInt32 >>> ((24 : Int32) &&& 31).toUInt32).toInt32).toInt8.toInt32)), .val (.ref b170), .unset, .unset, .unset] [(.int (3 : Int32))]))
  refine ogoW (fun t k => XS.iconst X175.here hx rfl (hb hby at_57) k) ?_
  show OwnEndsW _ _ _ _ _ _ _ (T175.setTop (mkF m 58 #[.val (.int p0), .val (.int p1), .val (.int (3 : Int32)), .val (.int (p1.toInt8.toInt32)), .val (.int (((p1.toUInt32 >>> ((8 : Int32) &&& 31).toUInt32).toInt32).toInt8.toInt32)), .val (.int (((p1.toUInt32 >>> ((16 : Int32) &&& 31).toUInt32).toInt32).toInt8.toInt32)), .val (.int (((p1.toUInt32 >>> ((24 : Int32) &&& 31).toUInt32).toInt32).toInt8.toInt32)), .val (.ref b170), .unset, .unset, .unset] [(.int (2 : Int32)), (.int (3 : Int32))]))
  refine ogoW (fun t k => XS.icmpNo X175.here hx rfl (hb hby at_58) rfl (tlt (by decide : (2 : Int32) < (3 : Int32))).2.2.2 k) ?_
  show OwnEndsW _ _ _ _ _ _ _ (T175.setTop (mkF m 61 #[.val (.int p0), .val (.int p1), .val (.int (3 : Int32)), .val (.int (p1.toInt8.toInt32)), .val (.int (((p1.toUInt32 >>> ((8 : Int32) &&& 31).toUInt32).toInt32).toInt8.toInt32)), .val (.int (((p1.toUInt32 >>> ((16 : Int32) &&& 31).toUInt32).toInt32).toInt8.toInt32)), .val (.int (((p1.toUInt32 >>> ((24 : Int32) &&& 31).toUInt32).toInt32).toInt8.toInt32)), .val (.ref b170), .unset, .unset, .unset] []))
  refine ogoW (fun t k => XS.aload X175.here hx rfl (hb hby at_61) rfl rfl k) ?_
  show OwnEndsW _ _ _ _ _ _ _ (T175.setTop (mkF m 63 #[.val (.int p0), .val (.int p1), .val (.int (3 : Int32)), .val (.int (p1.toInt8.toInt32)), .val (.int (((p1.toUInt32 >>> ((8 : Int32) &&& 31).toUInt32).toInt32).toInt8.toInt32)), .val (.int (((p1.toUInt32 >>> ((16 : Int32) &&& 31).toUInt32).toInt32).toInt8.toInt32)), .val (.int (((p1.toUInt32 >>> ((24 : Int32) &&& 31).toUInt32).toInt32).toInt8.toInt32)), .val (.ref b170), .unset, .unset, .unset] [(.ref b170)]))
  refine ogoW (fun t k => XS.iconst X175.here hx rfl (hb hby at_63) k) ?_
  show OwnEndsW _ _ _ _ _ _ _ (T175.setTop (mkF m 64 #[.val (.int p0), .val (.int p1), .val (.int (3 : Int32)), .val (.int (p1.toInt8.toInt32)), .val (.int (((p1.toUInt32 >>> ((8 : Int32) &&& 31).toUInt32).toInt32).toInt8.toInt32)), .val (.int (((p1.toUInt32 >>> ((16 : Int32) &&& 31).toUInt32).toInt32).toInt8.toInt32)), .val (.int (((p1.toUInt32 >>> ((24 : Int32) &&& 31).toUInt32).toInt32).toInt8.toInt32)), .val (.ref b170), .unset, .unset, .unset] [(.int (2 : Int32)), (.ref b170)]))
  refine ogoW (fun t k => XS.iload X175.here hx rfl (hb hby at_64) rfl k) ?_
  show OwnEndsW _ _ _ _ _ _ _ (T175.setTop (mkF m 66 #[.val (.int p0), .val (.int p1), .val (.int (3 : Int32)), .val (.int (p1.toInt8.toInt32)), .val (.int (((p1.toUInt32 >>> ((8 : Int32) &&& 31).toUInt32).toInt32).toInt8.toInt32)), .val (.int (((p1.toUInt32 >>> ((16 : Int32) &&& 31).toUInt32).toInt32).toInt8.toInt32)), .val (.int (((p1.toUInt32 >>> ((24 : Int32) &&& 31).toUInt32).toInt32).toInt8.toInt32)), .val (.ref b170), .unset, .unset, .unset] [(.int (((p1.toUInt32 >>> ((16 : Int32) &&& 31).toUInt32).toInt32).toInt8.toInt32)), (.int (2 : Int32)), (.ref b170)]))
  obtain ⟨cl178, Ar178, Aq178, As178, An178, Ah178, Ag178⟩ := id V175
  obtain ⟨T178, h178, X178, e178, W178, st178⟩ := stB X175 hx hZ e175 Ar178 (j := (2 : Int32)) (inb_of As178 ⟨by decide, by decide⟩) (g := (mkF m 66 #[.val (.int p0), .val (.int p1), .val (.int (3 : Int32)), .val (.int (p1.toInt8.toInt32)), .val (.int (((p1.toUInt32 >>> ((8 : Int32) &&& 31).toUInt32).toInt32).toInt8.toInt32)), .val (.int (((p1.toUInt32 >>> ((16 : Int32) &&& 31).toUInt32).toInt32).toInt8.toInt32)), .val (.int (((p1.toUInt32 >>> ((24 : Int32) &&& 31).toUInt32).toInt32).toInt8.toInt32)), .val (.ref b170), .unset, .unset, .unset] [(.int (((p1.toUInt32 >>> ((16 : Int32) &&& 31).toUInt32).toInt32).toInt8.toInt32)), (.int (2 : Int32)), (.ref b170)])) rfl rfl (hb hby at_66)
  rw [own_narb] at W178
  have V178 : Arv Z h178 b170 k170 .byte (3 : Int32) [(.int (p1.toInt8.toInt32)), (.int (((p1.toUInt32 >>> ((8 : Int32) &&& 31).toUInt32).toInt32).toInt8.toInt32)), (.int (((p1.toUInt32 >>> ((16 : Int32) &&& 31).toUInt32).toInt32).toInt8.toInt32))] (.int (0 : Int32)) := Arv.set Ar178 Aq178 As178 An178 Ah178 Ag178 (fits_nar_byte _) W178 2 rfl (Nat.le_of_ble_eq_true rfl)
  have f179 := f176.wr W178
  have N180 := Fr.snoc X178 N177 q_b170
  have OLD180 := OLD177.wr W178 q_b170
  have K180 := K177.wr W178 (Or.inr sz_b170)
  have Z180 := Nat.le_trans Z177 (Nat.le_of_eq W178.size.symm)
  refine ogoW st178 ?_
  show OwnEndsW _ _ _ _ _ _ _ (T178.setTop (mkF m 67 #[.val (.int p0), .val (.int p1), .val (.int (3 : Int32)), .val (.int (p1.toInt8.toInt32)), .val (.int (((p1.toUInt32 >>> ((8 : Int32) &&& 31).toUInt32).toInt32).toInt8.toInt32)), .val (.int (((p1.toUInt32 >>> ((16 : Int32) &&& 31).toUInt32).toInt32).toInt8.toInt32)), .val (.int (((p1.toUInt32 >>> ((24 : Int32) &&& 31).toUInt32).toInt32).toInt8.toInt32)), .val (.ref b170), .unset, .unset, .unset] []))
  refine ogoW (fun t k => XS.iloadN X178.here hx rfl (hb hby at_67) rfl k) ?_
  show OwnEndsW _ _ _ _ _ _ _ (T178.setTop (mkF m 68 #[.val (.int p0), .val (.int p1), .val (.int (3 : Int32)), .val (.int (p1.toInt8.toInt32)), .val (.int (((p1.toUInt32 >>> ((8 : Int32) &&& 31).toUInt32).toInt32).toInt8.toInt32)), .val (.int (((p1.toUInt32 >>> ((16 : Int32) &&& 31).toUInt32).toInt32).toInt8.toInt32)), .val (.int (((p1.toUInt32 >>> ((24 : Int32) &&& 31).toUInt32).toInt32).toInt8.toInt32)), .val (.ref b170), .unset, .unset, .unset] [(.int (3 : Int32))]))
  refine ogoW (fun t k => XS.iconst X178.here hx rfl (hb hby at_68) k) ?_
  show OwnEndsW _ _ _ _ _ _ _ (T178.setTop (mkF m 69 #[.val (.int p0), .val (.int p1), .val (.int (3 : Int32)), .val (.int (p1.toInt8.toInt32)), .val (.int (((p1.toUInt32 >>> ((8 : Int32) &&& 31).toUInt32).toInt32).toInt8.toInt32)), .val (.int (((p1.toUInt32 >>> ((16 : Int32) &&& 31).toUInt32).toInt32).toInt8.toInt32)), .val (.int (((p1.toUInt32 >>> ((24 : Int32) &&& 31).toUInt32).toInt32).toInt8.toInt32)), .val (.ref b170), .unset, .unset, .unset] [(.int (3 : Int32)), (.int (3 : Int32))]))
  refine ogoW (fun t k => XS.icmpYes X178.here hx rfl (pc0 := 69) (pc' := 78) rfl (hb hby at_69) rfl (flt (by decide : ¬ ((3 : Int32) < (3 : Int32)))).2.2.2 (by decide) (by decide) k) ?_
  show OwnEndsW _ _ _ _ _ _ _ (T178.setTop (mkF m 78 #[.val (.int p0), .val (.int p1), .val (.int (3 : Int32)), .val (.int (p1.toInt8.toInt32)), .val (.int (((p1.toUInt32 >>> ((8 : Int32) &&& 31).toUInt32).toInt32).toInt8.toInt32)), .val (.int (((p1.toUInt32 >>> ((16 : Int32) &&& 31).toUInt32).toInt32).toInt8.toInt32)), .val (.int (((p1.toUInt32 >>> ((24 : Int32) &&& 31).toUInt32).toInt32).toInt8.toInt32)), .val (.ref b170), .unset, .unset, .unset] []))
  refine ogoW (fun t k => XS.aload X178.here hx rfl (hb hby at_78) rfl rfl k) ?_
  show OwnEndsW _ _ _ _ _ _ _ (T178.setTop (mkF m 80 #[.val (.int p0), .val (.int p1), .val (.int (3 : Int32)), .val (.int (p1.toInt8.toInt32)), .val (.int (((p1.toUInt32 >>> ((8 : Int32) &&& 31).toUInt32).toInt32).toInt8.toInt32)), .val (.int (((p1.toUInt32 >>> ((16 : Int32) &&& 31).toUInt32).toInt32).toInt8.toInt32)), .val (.int (((p1.toUInt32 >>> ((24 : Int32) &&& 31).toUInt32).toInt32).toInt8.toInt32)), .val (.ref b170), .unset, .unset, .unset] [(.ref b170)]))
  obtain ⟨v181, _, ⟨T181, L181, k181, n181⟩, -, X181, hSq181, hgq181, ⟨Lc181, hQ181, l181, y181, z181⟩, st181⟩ := callSS X178 hx (y := (⟨"com/example/once_guard/onceguard/ClaimResult", "inProgress", "([B)Lcom/example/once_guard/onceguard/ClaimResult;"⟩ : MethodName)) hown (mvT hZ (hw _ (List.mem_of_getElem? (i := 2) rfl))) (mvT hZ (hw _ (List.mem_of_getElem? (i := 3) rfl))) (mvT hZ (hw _ (List.mem_of_getElem? (i := 4) rfl))) (mvT hZ (hw _ (List.mem_of_getElem? (i := 5) rfl))) (by decide) (backOfS (W := 0) (rm5 l Z a0 hw [] b170 (3 : Int32) [(.int (p1.toInt8.toInt32)), (.int (((p1.toUInt32 >>> ((8 : Int32) &&& 31).toUInt32).toInt32).toInt8.toInt32)), (.int (((p1.toUInt32 >>> ((16 : Int32) &&& 31).toUInt32).toInt32).toInt8.toInt32))] w_IN_PROGRESS h178 n0 Z180 OLD180 S_IN_PROGRESS ⟨_, V178⟩ f179 (by decide)) hZ (hw _ (List.mem_of_getElem? (i := 5) rfl)) (hw _ (List.mem_of_getElem? (i := 4) rfl)) (by decide) (by decide)) (g := (mkF m 80 #[.val (.int p0), .val (.int p1), .val (.int (3 : Int32)), .val (.int (p1.toInt8.toInt32)), .val (.int (((p1.toUInt32 >>> ((8 : Int32) &&& 31).toUInt32).toInt32).toInt8.toInt32)), .val (.int (((p1.toUInt32 >>> ((16 : Int32) &&& 31).toUInt32).toInt32).toInt8.toInt32)), .val (.int (((p1.toUInt32 >>> ((24 : Int32) &&& 31).toUInt32).toInt32).toInt8.toInt32)), .val (.ref b170), .unset, .unset, .unset] [(.ref b170)])) rfl (by rw [hml]; rfl) (argsL := [(.ref b170)]) (rest := []) (lenOf pd_f29d2ef6 rfl) rfl (by show 2 * 0 + _ ≤ _; exact Nat.le_of_eq rfl) (hb hby at_80) (fun _ _ => ⟨rfl, e178, (by decide : 1 + 4 ≤ _), (by decide : 3 + 132 ≤ _)⟩)
  dsimp only [Pt.U, Pt.locs, Pt.cells, Pt.slots] at X181 l181 y181 z181 st181 hQ181 hSq181 hgq181
  subst l181 y181 z181
  obtain ⟨X181, hS181, hZ, hown⟩ := rebS hS0 (by rw [e178]; exact (Nat.zero_le _)) X181 hSq181 hgq181 hZ hown
  obtain ⟨r181, x181, rfl, Sq181, Sp181, N181q, Kq181, Eq181, Fa181, Fb181, Vq181, Ec181⟩ := hQ181
  have N181 := Fr.app N180 N181q
  have ne_b170_r181 : b170 ≠ r181 := Nat.ne_of_lt (Nat.lt_of_lt_of_le (V178).lt Sq181)
  have q_r181 : n0 ≤ r181 := Nat.le_trans Z180 Sq181
  have sz_r181 : h0.size ≤ r181 := Nat.le_trans K180.1 Sq181
  have ne_b170_x181 : b170 ≠ x181 := Nat.ne_of_lt (Nat.lt_of_lt_of_le (V178).lt Sp181)
  have q_x181 : n0 ≤ x181 := Nat.le_trans Z180 Sp181
  have sz_x181 : h0.size ≤ x181 := Nat.le_trans K180.1 Sp181
  have f182 := V178.keep Kq181 nin0
  have f183 := f179.keep Kq181
  have OLD184 := OLD180.keep Kq181 all0
  have K184 := K180.trans Kq181 all0
  have Z184 := Nat.le_trans Z180 Kq181.1
  refine ogoW (fun t k => st181.trans k) ?_
  show OwnEndsW _ _ _ _ _ _ _ (T181.setTop (mkF m 83 #[.val (.int p0), .val (.int p1), .val (.int (3 : Int32)), .val (.int (p1.toInt8.toInt32)), .val (.int (((p1.toUInt32 >>> ((8 : Int32) &&& 31).toUInt32).toInt32).toInt8.toInt32)), .val (.int (((p1.toUInt32 >>> ((16 : Int32) &&& 31).toUInt32).toInt32).toInt8.toInt32)), .val (.int (((p1.toUInt32 >>> ((24 : Int32) &&& 31).toUInt32).toInt32).toInt8.toInt32)), .val (.ref b170), .unset, .unset, .unset] [(.ref r181)]))
  refine ogoW (fun t k => XS.astore X181.here hx rfl (hb hby at_83) rfl rfl (l' := #[.val (.int p0), .val (.int p1), .val (.int (3 : Int32)), .val (.int (p1.toInt8.toInt32)), .val (.int (((p1.toUInt32 >>> ((8 : Int32) &&& 31).toUInt32).toInt32).toInt8.toInt32)), .val (.int (((p1.toUInt32 >>> ((16 : Int32) &&& 31).toUInt32).toInt32).toInt8.toInt32)), .val (.int (((p1.toUInt32 >>> ((24 : Int32) &&& 31).toUInt32).toInt32).toInt8.toInt32)), .val (.ref b170), .val (.ref r181), .unset, .unset]) rfl k) ?_
  show OwnEndsW _ _ _ _ _ _ _ (T181.setTop (mkF m 85 #[.val (.int p0), .val (.int p1), .val (.int (3 : Int32)), .val (.int (p1.toInt8.toInt32)), .val (.int (((p1.toUInt32 >>> ((8 : Int32) &&& 31).toUInt32).toInt32).toInt8.toInt32)), .val (.int (((p1.toUInt32 >>> ((16 : Int32) &&& 31).toUInt32).toInt32).toInt8.toInt32)), .val (.int (((p1.toUInt32 >>> ((24 : Int32) &&& 31).toUInt32).toInt32).toInt8.toInt32)), .val (.ref b170), .val (.ref r181), .unset, .unset] []))
  refine ogoW (fun t k => XS.iloadN X181.here hx rfl (hb hby at_85) rfl k) ?_
  show OwnEndsW _ _ _ _ _ _ _ (T181.setTop (mkF m 86 #[.val (.int p0), .val (.int p1), .val (.int (3 : Int32)), .val (.int (p1.toInt8.toInt32)), .val (.int (((p1.toUInt32 >>> ((8 : Int32) &&& 31).toUInt32).toInt32).toInt8.toInt32)), .val (.int (((p1.toUInt32 >>> ((16 : Int32) &&& 31).toUInt32).toInt32).toInt8.toInt32)), .val (.int (((p1.toUInt32 >>> ((24 : Int32) &&& 31).toUInt32).toInt32).toInt8.toInt32)), .val (.ref b170), .val (.ref r181), .unset, .unset] [(.int (3 : Int32))]))
  refine ogoW (fun t k => XS.ifNo X181.here hx rfl (hb hby at_86) rfl ((if0 _ _).trans (tlt (by decide : (0 : Int32) < (3 : Int32))).2.2.2) k) ?_
  show OwnEndsW _ _ _ _ _ _ _ (T181.setTop (mkF m 89 #[.val (.int p0), .val (.int p1), .val (.int (3 : Int32)), .val (.int (p1.toInt8.toInt32)), .val (.int (((p1.toUInt32 >>> ((8 : Int32) &&& 31).toUInt32).toInt32).toInt8.toInt32)), .val (.int (((p1.toUInt32 >>> ((16 : Int32) &&& 31).toUInt32).toInt32).toInt8.toInt32)), .val (.int (((p1.toUInt32 >>> ((24 : Int32) &&& 31).toUInt32).toInt32).toInt8.toInt32)), .val (.ref b170), .val (.ref r181), .unset, .unset] []))
  refine ogoW (fun t k => XS.aload X181.here hx rfl (hb hby at_89) rfl rfl k) ?_
  show OwnEndsW _ _ _ _ _ _ _ (T181.setTop (mkF m 91 #[.val (.int p0), .val (.int p1), .val (.int (3 : Int32)), .val (.int (p1.toInt8.toInt32)), .val (.int (((p1.toUInt32 >>> ((8 : Int32) &&& 31).toUInt32).toInt32).toInt8.toInt32)), .val (.int (((p1.toUInt32 >>> ((16 : Int32) &&& 31).toUInt32).toInt32).toInt8.toInt32)), .val (.int (((p1.toUInt32 >>> ((24 : Int32) &&& 31).toUInt32).toInt32).toInt8.toInt32)), .val (.ref b170), .val (.ref r181), .unset, .unset] [(.ref b170)]))
  refine ogoW (fun t k => XS.iconst X181.here hx rfl (hb hby at_91) k) ?_
  show OwnEndsW _ _ _ _ _ _ _ (T181.setTop (mkF m 92 #[.val (.int p0), .val (.int p1), .val (.int (3 : Int32)), .val (.int (p1.toInt8.toInt32)), .val (.int (((p1.toUInt32 >>> ((8 : Int32) &&& 31).toUInt32).toInt32).toInt8.toInt32)), .val (.int (((p1.toUInt32 >>> ((16 : Int32) &&& 31).toUInt32).toInt32).toInt8.toInt32)), .val (.int (((p1.toUInt32 >>> ((24 : Int32) &&& 31).toUInt32).toInt32).toInt8.toInt32)), .val (.ref b170), .val (.ref r181), .unset, .unset] [(.int (0 : Int32)), (.ref b170)]))
  refine ogoW (fun t k => XS.iloadN X181.here hx rfl (hb hby at_92) rfl k) ?_
  show OwnEndsW _ _ _ _ _ _ _ (T181.setTop (mkF m 93 #[.val (.int p0), .val (.int p1), .val (.int (3 : Int32)), .val (.int (p1.toInt8.toInt32)), .val (.int (((p1.toUInt32 >>> ((8 : Int32) &&& 31).toUInt32).toInt32).toInt8.toInt32)), .val (.int (((p1.toUInt32 >>> ((16 : Int32) &&& 31).toUInt32).toInt32).toInt8.toInt32)), .val (.int (((p1.toUInt32 >>> ((24 : Int32) &&& 31).toUInt32).toInt32).toInt8.toInt32)), .val (.ref b170), .val (.ref r181), .unset, .unset] [(.int (p1.toInt8.toInt32)), (.int (0 : Int32)), (.ref b170)]))
  refine ogoW (fun t k => XS.iconst X181.here hx rfl (hb hby at_93) k) ?_
  show OwnEndsW _ _ _ _ _ _ _ (T181.setTop (mkF m 94 #[.val (.int p0), .val (.int p1), .val (.int (3 : Int32)), .val (.int (p1.toInt8.toInt32)), .val (.int (((p1.toUInt32 >>> ((8 : Int32) &&& 31).toUInt32).toInt32).toInt8.toInt32)), .val (.int (((p1.toUInt32 >>> ((16 : Int32) &&& 31).toUInt32).toInt32).toInt8.toInt32)), .val (.int (((p1.toUInt32 >>> ((24 : Int32) &&& 31).toUInt32).toInt32).toInt8.toInt32)), .val (.ref b170), .val (.ref r181), .unset, .unset] [(.int (-1 : Int32)), (.int (p1.toInt8.toInt32)), (.int (0 : Int32)), (.ref b170)]))
  refine ogoW (fun t k => XS.ixor X181.here hx rfl (hb hby at_94) rfl k) ?_
  show OwnEndsW _ _ _ _ _ _ _ (T181.setTop (mkF m 95 #[.val (.int p0), .val (.int p1), .val (.int (3 : Int32)), .val (.int (p1.toInt8.toInt32)), .val (.int (((p1.toUInt32 >>> ((8 : Int32) &&& 31).toUInt32).toInt32).toInt8.toInt32)), .val (.int (((p1.toUInt32 >>> ((16 : Int32) &&& 31).toUInt32).toInt32).toInt8.toInt32)), .val (.int (((p1.toUInt32 >>> ((24 : Int32) &&& 31).toUInt32).toInt32).toInt8.toInt32)), .val (.ref b170), .val (.ref r181), .unset, .unset] [(.int ((p1.toInt8.toInt32) ^^^ (-1 : Int32))), (.int (0 : Int32)), (.ref b170)]))
  refine ogoW (fun t k => XS.i2b X181.here hx rfl (hb hby at_95) rfl k) ?_
  show OwnEndsW _ _ _ _ _ _ _ (T181.setTop (mkF m 96 #[.val (.int p0), .val (.int p1), .val (.int (3 : Int32)), .val (.int (p1.toInt8.toInt32)), .val (.int (((p1.toUInt32 >>> ((8 : Int32) &&& 31).toUInt32).toInt32).toInt8.toInt32)), .val (.int (((p1.toUInt32 >>> ((16 : Int32) &&& 31).toUInt32).toInt32).toInt8.toInt32)), .val (.int (((p1.toUInt32 >>> ((24 : Int32) &&& 31).toUInt32).toInt32).toInt8.toInt32)), .val (.ref b170), .val (.ref r181), .unset, .unset] [(.int (((p1.toInt8.toInt32) ^^^ (-1 : Int32)).toInt8.toInt32)), (.int (0 : Int32)), (.ref b170)]))
  obtain ⟨cl185, Ar185, Aq185, As185, An185, Ah185, Ag185⟩ := id f182
  obtain ⟨T185, h185, X185, e185, W185, st185⟩ := stB X181 hx hZ rfl Ar185 (j := (0 : Int32)) (inb_of As185 ⟨by decide, by decide⟩) (g := (mkF m 96 #[.val (.int p0), .val (.int p1), .val (.int (3 : Int32)), .val (.int (p1.toInt8.toInt32)), .val (.int (((p1.toUInt32 >>> ((8 : Int32) &&& 31).toUInt32).toInt32).toInt8.toInt32)), .val (.int (((p1.toUInt32 >>> ((16 : Int32) &&& 31).toUInt32).toInt32).toInt8.toInt32)), .val (.int (((p1.toUInt32 >>> ((24 : Int32) &&& 31).toUInt32).toInt32).toInt8.toInt32)), .val (.ref b170), .val (.ref r181), .unset, .unset] [(.int (((p1.toInt8.toInt32) ^^^ (-1 : Int32)).toInt8.toInt32)), (.int (0 : Int32)), (.ref b170)])) rfl rfl (hb hby at_96)
  rw [own_narb] at W185
  have V185 : Arv Z h185 b170 k170 .byte (3 : Int32) [(.int (((p1.toInt8.toInt32) ^^^ (-1 : Int32)).toInt8.toInt32)), (.int (((p1.toUInt32 >>> ((8 : Int32) &&& 31).toUInt32).toInt32).toInt8.toInt32)), (.int (((p1.toUInt32 >>> ((16 : Int32) &&& 31).toUInt32).toInt32).toInt8.toInt32))] (.int (0 : Int32)) := Arv.set Ar185 Aq185 As185 An185 Ah185 Ag185 (fits_nar_byte _) W185 0 rfl (Nat.le_of_ble_eq_true rfl)
  have f186 := f183.wr W185
  have f187 := Eq181.wr W185
  have f188 := Fa181.other W185 (Or.inl (Ne.symm ne_b170_r181))
  have f189 := Fb181.other W185 (Or.inl (Ne.symm ne_b170_r181))
  have f190 := Vq181.other W185 (Ne.symm ne_b170_x181)
  have f191 := Ec181.wr W185
  have N192 := Fr.snoc X185 N181 q_b170
  have OLD192 := OLD184.wr W185 q_b170
  have K192 := K184.wr W185 (Or.inr sz_b170)
  have Z192 := Nat.le_trans Z184 (Nat.le_of_eq W185.size.symm)
  have hk193 := Nat.le_trans (Nat.le_refl _) (Nat.le_of_eq W185.size.symm)
  refine ogoW st185 ?_
  show OwnEndsW _ _ _ _ _ _ _ (T185.setTop (mkF m 97 #[.val (.int p0), .val (.int p1), .val (.int (3 : Int32)), .val (.int (p1.toInt8.toInt32)), .val (.int (((p1.toUInt32 >>> ((8 : Int32) &&& 31).toUInt32).toInt32).toInt8.toInt32)), .val (.int (((p1.toUInt32 >>> ((16 : Int32) &&& 31).toUInt32).toInt32).toInt8.toInt32)), .val (.int (((p1.toUInt32 >>> ((24 : Int32) &&& 31).toUInt32).toInt32).toInt8.toInt32)), .val (.ref b170), .val (.ref r181), .unset, .unset] []))
  refine ogoW (fun t k => XS.iloadN X185.here hx rfl (hb hby at_97) rfl k) ?_
  show OwnEndsW _ _ _ _ _ _ _ (T185.setTop (mkF m 98 #[.val (.int p0), .val (.int p1), .val (.int (3 : Int32)), .val (.int (p1.toInt8.toInt32)), .val (.int (((p1.toUInt32 >>> ((8 : Int32) &&& 31).toUInt32).toInt32).toInt8.toInt32)), .val (.int (((p1.toUInt32 >>> ((16 : Int32) &&& 31).toUInt32).toInt32).toInt8.toInt32)), .val (.int (((p1.toUInt32 >>> ((24 : Int32) &&& 31).toUInt32).toInt32).toInt8.toInt32)), .val (.ref b170), .val (.ref r181), .unset, .unset] [(.int (3 : Int32))]))
  refine ogoW (fun t k => XS.iconst X185.here hx rfl (hb hby at_98) k) ?_
  show OwnEndsW _ _ _ _ _ _ _ (T185.setTop (mkF m 99 #[.val (.int p0), .val (.int p1), .val (.int (3 : Int32)), .val (.int (p1.toInt8.toInt32)), .val (.int (((p1.toUInt32 >>> ((8 : Int32) &&& 31).toUInt32).toInt32).toInt8.toInt32)), .val (.int (((p1.toUInt32 >>> ((16 : Int32) &&& 31).toUInt32).toInt32).toInt8.toInt32)), .val (.int (((p1.toUInt32 >>> ((24 : Int32) &&& 31).toUInt32).toInt32).toInt8.toInt32)), .val (.ref b170), .val (.ref r181), .unset, .unset] [(.int (1 : Int32)), (.int (3 : Int32))]))
  refine ogoW (fun t k => XS.icmpNo X185.here hx rfl (hb hby at_99) rfl (tlt (by decide : (1 : Int32) < (3 : Int32))).2.2.2 k) ?_
  show OwnEndsW _ _ _ _ _ _ _ (T185.setTop (mkF m 102 #[.val (.int p0), .val (.int p1), .val (.int (3 : Int32)), .val (.int (p1.toInt8.toInt32)), .val (.int (((p1.toUInt32 >>> ((8 : Int32) &&& 31).toUInt32).toInt32).toInt8.toInt32)), .val (.int (((p1.toUInt32 >>> ((16 : Int32) &&& 31).toUInt32).toInt32).toInt8.toInt32)), .val (.int (((p1.toUInt32 >>> ((24 : Int32) &&& 31).toUInt32).toInt32).toInt8.toInt32)), .val (.ref b170), .val (.ref r181), .unset, .unset] []))
  refine ogoW (fun t k => XS.aload X185.here hx rfl (hb hby at_102) rfl rfl k) ?_
  show OwnEndsW _ _ _ _ _ _ _ (T185.setTop (mkF m 104 #[.val (.int p0), .val (.int p1), .val (.int (3 : Int32)), .val (.int (p1.toInt8.toInt32)), .val (.int (((p1.toUInt32 >>> ((8 : Int32) &&& 31).toUInt32).toInt32).toInt8.toInt32)), .val (.int (((p1.toUInt32 >>> ((16 : Int32) &&& 31).toUInt32).toInt32).toInt8.toInt32)), .val (.int (((p1.toUInt32 >>> ((24 : Int32) &&& 31).toUInt32).toInt32).toInt8.toInt32)), .val (.ref b170), .val (.ref r181), .unset, .unset] [(.ref b170)]))
  refine ogoW (fun t k => XS.iconst X185.here hx rfl (hb hby at_104) k) ?_
  show OwnEndsW _ _ _ _ _ _ _ (T185.setTop (mkF m 105 #[.val (.int p0), .val (.int p1), .val (.int (3 : Int32)), .val (.int (p1.toInt8.toInt32)), .val (.int (((p1.toUInt32 >>> ((8 : Int32) &&& 31).toUInt32).toInt32).toInt8.toInt32)), .val (.int (((p1.toUInt32 >>> ((16 : Int32) &&& 31).toUInt32).toInt32).toInt8.toInt32)), .val (.int (((p1.toUInt32 >>> ((24 : Int32) &&& 31).toUInt32).toInt32).toInt8.toInt32)), .val (.ref b170), .val (.ref r181), .unset, .unset] [(.int (1 : Int32)), (.ref b170)]))
  refine ogoW (fun t k => XS.iload X185.here hx rfl (hb hby at_105) rfl k) ?_
  show OwnEndsW _ _ _ _ _ _ _ (T185.setTop (mkF m 107 #[.val (.int p0), .val (.int p1), .val (.int (3 : Int32)), .val (.int (p1.toInt8.toInt32)), .val (.int (((p1.toUInt32 >>> ((8 : Int32) &&& 31).toUInt32).toInt32).toInt8.toInt32)), .val (.int (((p1.toUInt32 >>> ((16 : Int32) &&& 31).toUInt32).toInt32).toInt8.toInt32)), .val (.int (((p1.toUInt32 >>> ((24 : Int32) &&& 31).toUInt32).toInt32).toInt8.toInt32)), .val (.ref b170), .val (.ref r181), .unset, .unset] [(.int (((p1.toUInt32 >>> ((8 : Int32) &&& 31).toUInt32).toInt32).toInt8.toInt32)), (.int (1 : Int32)), (.ref b170)]))
  refine ogoW (fun t k => XS.iconst X185.here hx rfl (hb hby at_107) k) ?_
  show OwnEndsW _ _ _ _ _ _ _ (T185.setTop (mkF m 108 #[.val (.int p0), .val (.int p1), .val (.int (3 : Int32)), .val (.int (p1.toInt8.toInt32)), .val (.int (((p1.toUInt32 >>> ((8 : Int32) &&& 31).toUInt32).toInt32).toInt8.toInt32)), .val (.int (((p1.toUInt32 >>> ((16 : Int32) &&& 31).toUInt32).toInt32).toInt8.toInt32)), .val (.int (((p1.toUInt32 >>> ((24 : Int32) &&& 31).toUInt32).toInt32).toInt8.toInt32)), .val (.ref b170), .val (.ref r181), .unset, .unset] [(.int (-1 : Int32)), (.int (((p1.toUInt32 >>> ((8 : Int32) &&& 31).toUInt32).toInt32).toInt8.toInt32)), (.int (1 : Int32)), (.ref b170)]))
  refine ogoW (fun t k => XS.ixor X185.here hx rfl (hb hby at_108) rfl k) ?_
  show OwnEndsW _ _ _ _ _ _ _ (T185.setTop (mkF m 109 #[.val (.int p0), .val (.int p1), .val (.int (3 : Int32)), .val (.int (p1.toInt8.toInt32)), .val (.int (((p1.toUInt32 >>> ((8 : Int32) &&& 31).toUInt32).toInt32).toInt8.toInt32)), .val (.int (((p1.toUInt32 >>> ((16 : Int32) &&& 31).toUInt32).toInt32).toInt8.toInt32)), .val (.int (((p1.toUInt32 >>> ((24 : Int32) &&& 31).toUInt32).toInt32).toInt8.toInt32)), .val (.ref b170), .val (.ref r181), .unset, .unset] [(.int ((((p1.toUInt32 >>> ((8 : Int32) &&& 31).toUInt32).toInt32).toInt8.toInt32) ^^^ (-1 : Int32))), (.int (1 : Int32)), (.ref b170)]))
  refine ogoW (fun t k => XS.i2b X185.here hx rfl (hb hby at_109) rfl k) ?_
  show OwnEndsW _ _ _ _ _ _ _ (T185.setTop (mkF m 110 #[.val (.int p0), .val (.int p1), .val (.int (3 : Int32)), .val (.int (p1.toInt8.toInt32)), .val (.int (((p1.toUInt32 >>> ((8 : Int32) &&& 31).toUInt32).toInt32).toInt8.toInt32)), .val (.int (((p1.toUInt32 >>> ((16 : Int32) &&& 31).toUInt32).toInt32).toInt8.toInt32)), .val (.int (((p1.toUInt32 >>> ((24 : Int32) &&& 31).toUInt32).toInt32).toInt8.toInt32)), .val (.ref b170), .val (.ref r181), .unset, .unset] [(.int (((((p1.toUInt32 >>> ((8 : Int32) &&& 31).toUInt32).toInt32).toInt8.toInt32) ^^^ (-1 : Int32)).toInt8.toInt32)), (.int (1 : Int32)), (.ref b170)]))
  obtain ⟨cl194, Ar194, Aq194, As194, An194, Ah194, Ag194⟩ := id V185
  obtain ⟨T194, h194, X194, e194, W194, st194⟩ := stB X185 hx hZ e185 Ar194 (j := (1 : Int32)) (inb_of As194 ⟨by decide, by decide⟩) (g := (mkF m 110 #[.val (.int p0), .val (.int p1), .val (.int (3 : Int32)), .val (.int (p1.toInt8.toInt32)), .val (.int (((p1.toUInt32 >>> ((8 : Int32) &&& 31).toUInt32).toInt32).toInt8.toInt32)), .val (.int (((p1.toUInt32 >>> ((16 : Int32) &&& 31).toUInt32).toInt32).toInt8.toInt32)), .val (.int (((p1.toUInt32 >>> ((24 : Int32) &&& 31).toUInt32).toInt32).toInt8.toInt32)), .val (.ref b170), .val (.ref r181), .unset, .unset] [(.int (((((p1.toUInt32 >>> ((8 : Int32) &&& 31).toUInt32).toInt32).toInt8.toInt32) ^^^ (-1 : Int32)).toInt8.toInt32)), (.int (1 : Int32)), (.ref b170)])) rfl rfl (hb hby at_110)
  rw [own_narb] at W194
  have V194 : Arv Z h194 b170 k170 .byte (3 : Int32) [(.int (((p1.toInt8.toInt32) ^^^ (-1 : Int32)).toInt8.toInt32)), (.int (((((p1.toUInt32 >>> ((8 : Int32) &&& 31).toUInt32).toInt32).toInt8.toInt32) ^^^ (-1 : Int32)).toInt8.toInt32)), (.int (((p1.toUInt32 >>> ((16 : Int32) &&& 31).toUInt32).toInt32).toInt8.toInt32))] (.int (0 : Int32)) := Arv.set Ar194 Aq194 As194 An194 Ah194 Ag194 (fits_nar_byte _) W194 1 rfl (Nat.le_of_ble_eq_true rfl)
  have f195 := f186.wr W194
  have f196 := f187.wr W194
  have f197 := f188.other W194 (Or.inl (Ne.symm ne_b170_r181))
  have f198 := f189.other W194 (Or.inl (Ne.symm ne_b170_r181))
  have f199 := f190.other W194 (Ne.symm ne_b170_x181)
  have f200 := f191.wr W194
  have N201 := Fr.snoc X194 N192 q_b170
  have OLD201 := OLD192.wr W194 q_b170
  have K201 := K192.wr W194 (Or.inr sz_b170)
  have Z201 := Nat.le_trans Z192 (Nat.le_of_eq W194.size.symm)
  have hk202 := Nat.le_trans hk193 (Nat.le_of_eq W194.size.symm)
  refine ogoW st194 ?_
  show OwnEndsW _ _ _ _ _ _ _ (T194.setTop (mkF m 111 #[.val (.int p0), .val (.int p1), .val (.int (3 : Int32)), .val (.int (p1.toInt8.toInt32)), .val (.int (((p1.toUInt32 >>> ((8 : Int32) &&& 31).toUInt32).toInt32).toInt8.toInt32)), .val (.int (((p1.toUInt32 >>> ((16 : Int32) &&& 31).toUInt32).toInt32).toInt8.toInt32)), .val (.int (((p1.toUInt32 >>> ((24 : Int32) &&& 31).toUInt32).toInt32).toInt8.toInt32)), .val (.ref b170), .val (.ref r181), .unset, .unset] []))
  refine ogoW (fun t k => XS.iloadN X194.here hx rfl (hb hby at_111) rfl k) ?_
  show OwnEndsW _ _ _ _ _ _ _ (T194.setTop (mkF m 112 #[.val (.int p0), .val (.int p1), .val (.int (3 : Int32)), .val (.int (p1.toInt8.toInt32)), .val (.int (((p1.toUInt32 >>> ((8 : Int32) &&& 31).toUInt32).toInt32).toInt8.toInt32)), .val (.int (((p1.toUInt32 >>> ((16 : Int32) &&& 31).toUInt32).toInt32).toInt8.toInt32)), .val (.int (((p1.toUInt32 >>> ((24 : Int32) &&& 31).toUInt32).toInt32).toInt8.toInt32)), .val (.ref b170), .val (.ref r181), .unset, .unset] [(.int (3 : Int32))]))
  refine ogoW (fun t k => XS.iconst X194.here hx rfl (hb hby at_112) k) ?_
  show OwnEndsW _ _ _ _ _ _ _ (T194.setTop (mkF m 113 #[.val (.int p0), .val (.int p1), .val (.int (3 : Int32)), .val (.int (p1.toInt8.toInt32)), .val (.int (((p1.toUInt32 >>> ((8 : Int32) &&& 31).toUInt32).toInt32).toInt8.toInt32)), .val (.int (((p1.toUInt32 >>> ((16 : Int32) &&& 31).toUInt32).toInt32).toInt8.toInt32)), .val (.int (((p1.toUInt32 >>> ((24 : Int32) &&& 31).toUInt32).toInt32).toInt8.toInt32)), .val (.ref b170), .val (.ref r181), .unset, .unset] [(.int (2 : Int32)), (.int (3 : Int32))]))
  refine ogoW (fun t k => XS.icmpNo X194.here hx rfl (hb hby at_113) rfl (tlt (by decide : (2 : Int32) < (3 : Int32))).2.2.2 k) ?_
  show OwnEndsW _ _ _ _ _ _ _ (T194.setTop (mkF m 116 #[.val (.int p0), .val (.int p1), .val (.int (3 : Int32)), .val (.int (p1.toInt8.toInt32)), .val (.int (((p1.toUInt32 >>> ((8 : Int32) &&& 31).toUInt32).toInt32).toInt8.toInt32)), .val (.int (((p1.toUInt32 >>> ((16 : Int32) &&& 31).toUInt32).toInt32).toInt8.toInt32)), .val (.int (((p1.toUInt32 >>> ((24 : Int32) &&& 31).toUInt32).toInt32).toInt8.toInt32)), .val (.ref b170), .val (.ref r181), .unset, .unset] []))
  refine ogoW (fun t k => XS.aload X194.here hx rfl (hb hby at_116) rfl rfl k) ?_
  show OwnEndsW _ _ _ _ _ _ _ (T194.setTop (mkF m 118 #[.val (.int p0), .val (.int p1), .val (.int (3 : Int32)), .val (.int (p1.toInt8.toInt32)), .val (.int (((p1.toUInt32 >>> ((8 : Int32) &&& 31).toUInt32).toInt32).toInt8.toInt32)), .val (.int (((p1.toUInt32 >>> ((16 : Int32) &&& 31).toUInt32).toInt32).toInt8.toInt32)), .val (.int (((p1.toUInt32 >>> ((24 : Int32) &&& 31).toUInt32).toInt32).toInt8.toInt32)), .val (.ref b170), .val (.ref r181), .unset, .unset] [(.ref b170)]))
  refine ogoW (fun t k => XS.iconst X194.here hx rfl (hb hby at_118) k) ?_
  show OwnEndsW _ _ _ _ _ _ _ (T194.setTop (mkF m 119 #[.val (.int p0), .val (.int p1), .val (.int (3 : Int32)), .val (.int (p1.toInt8.toInt32)), .val (.int (((p1.toUInt32 >>> ((8 : Int32) &&& 31).toUInt32).toInt32).toInt8.toInt32)), .val (.int (((p1.toUInt32 >>> ((16 : Int32) &&& 31).toUInt32).toInt32).toInt8.toInt32)), .val (.int (((p1.toUInt32 >>> ((24 : Int32) &&& 31).toUInt32).toInt32).toInt8.toInt32)), .val (.ref b170), .val (.ref r181), .unset, .unset] [(.int (2 : Int32)), (.ref b170)]))
  refine ogoW (fun t k => XS.iload X194.here hx rfl (hb hby at_119) rfl k) ?_
  show OwnEndsW _ _ _ _ _ _ _ (T194.setTop (mkF m 121 #[.val (.int p0), .val (.int p1), .val (.int (3 : Int32)), .val (.int (p1.toInt8.toInt32)), .val (.int (((p1.toUInt32 >>> ((8 : Int32) &&& 31).toUInt32).toInt32).toInt8.toInt32)), .val (.int (((p1.toUInt32 >>> ((16 : Int32) &&& 31).toUInt32).toInt32).toInt8.toInt32)), .val (.int (((p1.toUInt32 >>> ((24 : Int32) &&& 31).toUInt32).toInt32).toInt8.toInt32)), .val (.ref b170), .val (.ref r181), .unset, .unset] [(.int (((p1.toUInt32 >>> ((16 : Int32) &&& 31).toUInt32).toInt32).toInt8.toInt32)), (.int (2 : Int32)), (.ref b170)]))
  refine ogoW (fun t k => XS.iconst X194.here hx rfl (hb hby at_121) k) ?_
  show OwnEndsW _ _ _ _ _ _ _ (T194.setTop (mkF m 122 #[.val (.int p0), .val (.int p1), .val (.int (3 : Int32)), .val (.int (p1.toInt8.toInt32)), .val (.int (((p1.toUInt32 >>> ((8 : Int32) &&& 31).toUInt32).toInt32).toInt8.toInt32)), .val (.int (((p1.toUInt32 >>> ((16 : Int32) &&& 31).toUInt32).toInt32).toInt8.toInt32)), .val (.int (((p1.toUInt32 >>> ((24 : Int32) &&& 31).toUInt32).toInt32).toInt8.toInt32)), .val (.ref b170), .val (.ref r181), .unset, .unset] [(.int (-1 : Int32)), (.int (((p1.toUInt32 >>> ((16 : Int32) &&& 31).toUInt32).toInt32).toInt8.toInt32)), (.int (2 : Int32)), (.ref b170)]))
  refine ogoW (fun t k => XS.ixor X194.here hx rfl (hb hby at_122) rfl k) ?_
  show OwnEndsW _ _ _ _ _ _ _ (T194.setTop (mkF m 123 #[.val (.int p0), .val (.int p1), .val (.int (3 : Int32)), .val (.int (p1.toInt8.toInt32)), .val (.int (((p1.toUInt32 >>> ((8 : Int32) &&& 31).toUInt32).toInt32).toInt8.toInt32)), .val (.int (((p1.toUInt32 >>> ((16 : Int32) &&& 31).toUInt32).toInt32).toInt8.toInt32)), .val (.int (((p1.toUInt32 >>> ((24 : Int32) &&& 31).toUInt32).toInt32).toInt8.toInt32)), .val (.ref b170), .val (.ref r181), .unset, .unset] [(.int ((((p1.toUInt32 >>> ((16 : Int32) &&& 31).toUInt32).toInt32).toInt8.toInt32) ^^^ (-1 : Int32))), (.int (2 : Int32)), (.ref b170)]))
  refine ogoW (fun t k => XS.i2b X194.here hx rfl (hb hby at_123) rfl k) ?_
  show OwnEndsW _ _ _ _ _ _ _ (T194.setTop (mkF m 124 #[.val (.int p0), .val (.int p1), .val (.int (3 : Int32)), .val (.int (p1.toInt8.toInt32)), .val (.int (((p1.toUInt32 >>> ((8 : Int32) &&& 31).toUInt32).toInt32).toInt8.toInt32)), .val (.int (((p1.toUInt32 >>> ((16 : Int32) &&& 31).toUInt32).toInt32).toInt8.toInt32)), .val (.int (((p1.toUInt32 >>> ((24 : Int32) &&& 31).toUInt32).toInt32).toInt8.toInt32)), .val (.ref b170), .val (.ref r181), .unset, .unset] [(.int (((((p1.toUInt32 >>> ((16 : Int32) &&& 31).toUInt32).toInt32).toInt8.toInt32) ^^^ (-1 : Int32)).toInt8.toInt32)), (.int (2 : Int32)), (.ref b170)]))
  obtain ⟨cl203, Ar203, Aq203, As203, An203, Ah203, Ag203⟩ := id V194
  obtain ⟨T203, h203, X203, e203, W203, st203⟩ := stB X194 hx hZ e194 Ar203 (j := (2 : Int32)) (inb_of As203 ⟨by decide, by decide⟩) (g := (mkF m 124 #[.val (.int p0), .val (.int p1), .val (.int (3 : Int32)), .val (.int (p1.toInt8.toInt32)), .val (.int (((p1.toUInt32 >>> ((8 : Int32) &&& 31).toUInt32).toInt32).toInt8.toInt32)), .val (.int (((p1.toUInt32 >>> ((16 : Int32) &&& 31).toUInt32).toInt32).toInt8.toInt32)), .val (.int (((p1.toUInt32 >>> ((24 : Int32) &&& 31).toUInt32).toInt32).toInt8.toInt32)), .val (.ref b170), .val (.ref r181), .unset, .unset] [(.int (((((p1.toUInt32 >>> ((16 : Int32) &&& 31).toUInt32).toInt32).toInt8.toInt32) ^^^ (-1 : Int32)).toInt8.toInt32)), (.int (2 : Int32)), (.ref b170)])) rfl rfl (hb hby at_124)
  rw [own_narb] at W203
  have V203 : Arv Z h203 b170 k170 .byte (3 : Int32) [(.int (((p1.toInt8.toInt32) ^^^ (-1 : Int32)).toInt8.toInt32)), (.int (((((p1.toUInt32 >>> ((8 : Int32) &&& 31).toUInt32).toInt32).toInt8.toInt32) ^^^ (-1 : Int32)).toInt8.toInt32)), (.int (((((p1.toUInt32 >>> ((16 : Int32) &&& 31).toUInt32).toInt32).toInt8.toInt32) ^^^ (-1 : Int32)).toInt8.toInt32))] (.int (0 : Int32)) := Arv.set Ar203 Aq203 As203 An203 Ah203 Ag203 (fits_nar_byte _) W203 2 rfl (Nat.le_of_ble_eq_true rfl)
  have f204 := f195.wr W203
  have f205 := f196.wr W203
  have f206 := f197.other W203 (Or.inl (Ne.symm ne_b170_r181))
  have f207 := f198.other W203 (Or.inl (Ne.symm ne_b170_r181))
  have f208 := f199.other W203 (Ne.symm ne_b170_x181)
  have f209 := f200.wr W203
  have N210 := Fr.snoc X203 N201 q_b170
  have OLD210 := OLD201.wr W203 q_b170
  have K210 := K201.wr W203 (Or.inr sz_b170)
  have Z210 := Nat.le_trans Z201 (Nat.le_of_eq W203.size.symm)
  have hk211 := Nat.le_trans hk202 (Nat.le_of_eq W203.size.symm)
  refine ogoW st203 ?_
  show OwnEndsW _ _ _ _ _ _ _ (T203.setTop (mkF m 125 #[.val (.int p0), .val (.int p1), .val (.int (3 : Int32)), .val (.int (p1.toInt8.toInt32)), .val (.int (((p1.toUInt32 >>> ((8 : Int32) &&& 31).toUInt32).toInt32).toInt8.toInt32)), .val (.int (((p1.toUInt32 >>> ((16 : Int32) &&& 31).toUInt32).toInt32).toInt8.toInt32)), .val (.int (((p1.toUInt32 >>> ((24 : Int32) &&& 31).toUInt32).toInt32).toInt8.toInt32)), .val (.ref b170), .val (.ref r181), .unset, .unset] []))
  refine ogoW (fun t k => XS.iloadN X203.here hx rfl (hb hby at_125) rfl k) ?_
  show OwnEndsW _ _ _ _ _ _ _ (T203.setTop (mkF m 126 #[.val (.int p0), .val (.int p1), .val (.int (3 : Int32)), .val (.int (p1.toInt8.toInt32)), .val (.int (((p1.toUInt32 >>> ((8 : Int32) &&& 31).toUInt32).toInt32).toInt8.toInt32)), .val (.int (((p1.toUInt32 >>> ((16 : Int32) &&& 31).toUInt32).toInt32).toInt8.toInt32)), .val (.int (((p1.toUInt32 >>> ((24 : Int32) &&& 31).toUInt32).toInt32).toInt8.toInt32)), .val (.ref b170), .val (.ref r181), .unset, .unset] [(.int (3 : Int32))]))
  refine ogoW (fun t k => XS.iconst X203.here hx rfl (hb hby at_126) k) ?_
  show OwnEndsW _ _ _ _ _ _ _ (T203.setTop (mkF m 127 #[.val (.int p0), .val (.int p1), .val (.int (3 : Int32)), .val (.int (p1.toInt8.toInt32)), .val (.int (((p1.toUInt32 >>> ((8 : Int32) &&& 31).toUInt32).toInt32).toInt8.toInt32)), .val (.int (((p1.toUInt32 >>> ((16 : Int32) &&& 31).toUInt32).toInt32).toInt8.toInt32)), .val (.int (((p1.toUInt32 >>> ((24 : Int32) &&& 31).toUInt32).toInt32).toInt8.toInt32)), .val (.ref b170), .val (.ref r181), .unset, .unset] [(.int (3 : Int32)), (.int (3 : Int32))]))
  refine ogoW (fun t k => XS.icmpYes X203.here hx rfl (pc0 := 127) (pc' := 139) rfl (hb hby at_127) rfl (flt (by decide : ¬ ((3 : Int32) < (3 : Int32)))).2.2.2 (by decide) (by decide) k) ?_
  show OwnEndsW _ _ _ _ _ _ _ (T203.setTop (mkF m 139 #[.val (.int p0), .val (.int p1), .val (.int (3 : Int32)), .val (.int (p1.toInt8.toInt32)), .val (.int (((p1.toUInt32 >>> ((8 : Int32) &&& 31).toUInt32).toInt32).toInt8.toInt32)), .val (.int (((p1.toUInt32 >>> ((16 : Int32) &&& 31).toUInt32).toInt32).toInt8.toInt32)), .val (.int (((p1.toUInt32 >>> ((24 : Int32) &&& 31).toUInt32).toInt32).toInt8.toInt32)), .val (.ref b170), .val (.ref r181), .unset, .unset] []))
  refine ogoW (fun t k => XS.aload X203.here hx rfl (hb hby at_139) rfl rfl k) ?_
  show OwnEndsW _ _ _ _ _ _ _ (T203.setTop (mkF m 141 #[.val (.int p0), .val (.int p1), .val (.int (3 : Int32)), .val (.int (p1.toInt8.toInt32)), .val (.int (((p1.toUInt32 >>> ((8 : Int32) &&& 31).toUInt32).toInt32).toInt8.toInt32)), .val (.int (((p1.toUInt32 >>> ((16 : Int32) &&& 31).toUInt32).toInt32).toInt8.toInt32)), .val (.int (((p1.toUInt32 >>> ((24 : Int32) &&& 31).toUInt32).toInt32).toInt8.toInt32)), .val (.ref b170), .val (.ref r181), .unset, .unset] [(.ref r181)]))
  obtain ⟨cq212, kq212, q212a, q212b, q212c⟩ := isOf hZ e203 f205
  obtain ⟨v212, _, ⟨T212, L212, k212, n212⟩, -, X212, ⟨Lc212, hQ212, l212, y212, z212⟩, st212⟩ := X203.virtualBack hx (y := (⟨"com/example/once_guard/onceguard/ClaimResult", "state", "()Lcom/example/once_guard/onceguard/ClaimResult$State;"⟩ : MethodName)) (z := (⟨"com/example/once_guard/onceguard/ClaimResult", "state", "()Lcom/example/once_guard/onceguard/ClaimResult$State;"⟩ : MethodName)) hown (mvT hZ (hw _ (List.mem_of_getElem? (i := 45) rfl))) (mvT hZ (hw _ (List.mem_of_getElem? (i := 46) rfl))) (notFace_of_selects (args := #[]) (mvT hZ (hw _ (List.mem_of_getElem? (i := 48) rfl)))) (mvT hZ (hw _ (List.mem_of_getElem? (i := 48) rfl))) (mvT hZ (hw _ (List.mem_of_getElem? (i := 47) rfl))) (by decide) (backOf (W := 0) (rm3 l Z a0 hw [] r181 w_IN_PROGRESS h203 n0 Z210 f206) hZ (hw _ (List.mem_of_getElem? (i := 49) rfl)) (hw _ (List.mem_of_getElem? (i := 4) rfl)) (by decide) (by decide)) q212a q212c (g := (mkF m 141 #[.val (.int p0), .val (.int p1), .val (.int (3 : Int32)), .val (.int (p1.toInt8.toInt32)), .val (.int (((p1.toUInt32 >>> ((8 : Int32) &&& 31).toUInt32).toInt32).toInt8.toInt32)), .val (.int (((p1.toUInt32 >>> ((16 : Int32) &&& 31).toUInt32).toInt32).toInt8.toInt32)), .val (.int (((p1.toUInt32 >>> ((24 : Int32) &&& 31).toUInt32).toInt32).toInt8.toInt32)), .val (.ref b170), .val (.ref r181), .unset, .unset] [(.ref r181)])) rfl (by rw [hml]; rfl) (Steps.refl _) (argsL := []) (rest := []) (lenOf pd___Lcom_example_once_guard_onceguard_ClaimResult_State_ rfl) rfl (by show 2 * 0 + _ ≤ _; exact Nat.le_of_eq rfl) (hb hby at_141) (fun _ _ => ⟨rfl, e203, (by decide : 5 + 0 ≤ _), (by decide : 135 + 0 ≤ _)⟩)
  dsimp only [Pt.U, Pt.locs, Pt.cells, Pt.slots] at X212 l212 y212 z212 st212 hQ212
  subst l212 y212 z212
  obtain ⟨rfl, N212q, e212⟩ := hQ212
  have N212 := Fr.app N210 N212q
  refine ogoW (fun t k => st212.trans k) ?_
  show OwnEndsW _ _ _ _ _ _ _ (T212.setTop (mkF m 144 #[.val (.int p0), .val (.int p1), .val (.int (3 : Int32)), .val (.int (p1.toInt8.toInt32)), .val (.int (((p1.toUInt32 >>> ((8 : Int32) &&& 31).toUInt32).toInt32).toInt8.toInt32)), .val (.int (((p1.toUInt32 >>> ((16 : Int32) &&& 31).toUInt32).toInt32).toInt8.toInt32)), .val (.int (((p1.toUInt32 >>> ((24 : Int32) &&& 31).toUInt32).toInt32).toInt8.toInt32)), .val (.ref b170), .val (.ref r181), .unset, .unset] [(.ref w_IN_PROGRESS)]))
  obtain ⟨T213, X213, e213, st213⟩ := getS2 X212 hx hZ hown (host := "") (Or.inl (hw _ (List.mem_of_getElem? (i := 50) rfl))) Via.refl e212 (S_IN_PROGRESS.ext OLD210.2) (g := (mkF m 144 #[.val (.int p0), .val (.int p1), .val (.int (3 : Int32)), .val (.int (p1.toInt8.toInt32)), .val (.int (((p1.toUInt32 >>> ((8 : Int32) &&& 31).toUInt32).toInt32).toInt8.toInt32)), .val (.int (((p1.toUInt32 >>> ((16 : Int32) &&& 31).toUInt32).toInt32).toInt8.toInt32)), .val (.int (((p1.toUInt32 >>> ((24 : Int32) &&& 31).toUInt32).toInt32).toInt8.toInt32)), .val (.ref b170), .val (.ref r181), .unset, .unset] [(.ref w_IN_PROGRESS)])) rfl (hb hby at_144)
  refine ogoW st213 ?_
  show OwnEndsW _ _ _ _ _ _ _ (T213.setTop (mkF m 147 #[.val (.int p0), .val (.int p1), .val (.int (3 : Int32)), .val (.int (p1.toInt8.toInt32)), .val (.int (((p1.toUInt32 >>> ((8 : Int32) &&& 31).toUInt32).toInt32).toInt8.toInt32)), .val (.int (((p1.toUInt32 >>> ((16 : Int32) &&& 31).toUInt32).toInt32).toInt8.toInt32)), .val (.int (((p1.toUInt32 >>> ((24 : Int32) &&& 31).toUInt32).toInt32).toInt8.toInt32)), .val (.ref b170), .val (.ref r181), .unset, .unset] [(.ref w_IN_PROGRESS), (.ref w_IN_PROGRESS)]))
  refine ogoW (fun t k => Jvm.RoadKit.acmp (g := (mkF m 147 #[.val (.int p0), .val (.int p1), .val (.int (3 : Int32)), .val (.int (p1.toInt8.toInt32)), .val (.int (((p1.toUInt32 >>> ((8 : Int32) &&& 31).toUInt32).toInt32).toInt8.toInt32)), .val (.int (((p1.toUInt32 >>> ((16 : Int32) &&& 31).toUInt32).toInt32).toInt8.toInt32)), .val (.int (((p1.toUInt32 >>> ((24 : Int32) &&& 31).toUInt32).toInt32).toInt8.toInt32)), .val (.ref b170), .val (.ref r181), .unset, .unset] [(.ref w_IN_PROGRESS), (.ref w_IN_PROGRESS)])) X213 hx rfl rfl rfl (pc0 := 147) (pc' := 152) (same := true) rfl (hb hby at_147) rfl (decide_eq_true (congrArg Value.ref rfl)) (by decide) (by decide) k) ?_
  show OwnEndsW _ _ _ _ _ _ _ (T213.setTop (mkF m 152 #[.val (.int p0), .val (.int p1), .val (.int (3 : Int32)), .val (.int (p1.toInt8.toInt32)), .val (.int (((p1.toUInt32 >>> ((8 : Int32) &&& 31).toUInt32).toInt32).toInt8.toInt32)), .val (.int (((p1.toUInt32 >>> ((16 : Int32) &&& 31).toUInt32).toInt32).toInt8.toInt32)), .val (.int (((p1.toUInt32 >>> ((24 : Int32) &&& 31).toUInt32).toInt32).toInt8.toInt32)), .val (.ref b170), .val (.ref r181), .unset, .unset] []))
  refine ogoW (fun t k => XS.aload X213.here hx rfl (hb hby at_152) rfl rfl k) ?_
  show OwnEndsW _ _ _ _ _ _ _ (T213.setTop (mkF m 154 #[.val (.int p0), .val (.int p1), .val (.int (3 : Int32)), .val (.int (p1.toInt8.toInt32)), .val (.int (((p1.toUInt32 >>> ((8 : Int32) &&& 31).toUInt32).toInt32).toInt8.toInt32)), .val (.int (((p1.toUInt32 >>> ((16 : Int32) &&& 31).toUInt32).toInt32).toInt8.toInt32)), .val (.int (((p1.toUInt32 >>> ((24 : Int32) &&& 31).toUInt32).toInt32).toInt8.toInt32)), .val (.ref b170), .val (.ref r181), .unset, .unset] [(.ref r181)]))
  obtain ⟨cq214, kq214, q214a, q214b, q214c⟩ := isOf hZ e213 f205
  obtain ⟨v214, _, ⟨T214, L214, k214, n214⟩, -, X214, ⟨Lc214, hQ214, l214, y214, z214⟩, st214⟩ := X213.virtualBack hx (y := (⟨"com/example/once_guard/onceguard/ClaimResult", "payloadDigest", "()[B"⟩ : MethodName)) (z := (⟨"com/example/once_guard/onceguard/ClaimResult", "payloadDigest", "()[B"⟩ : MethodName)) hown (mvT hZ (hw _ (List.mem_of_getElem? (i := 51) rfl))) (mvT hZ (hw _ (List.mem_of_getElem? (i := 52) rfl))) (notFace_of_selects (args := #[]) (mvT hZ (hw _ (List.mem_of_getElem? (i := 54) rfl)))) (mvT hZ (hw _ (List.mem_of_getElem? (i := 54) rfl))) (mvT hZ (hw _ (List.mem_of_getElem? (i := 53) rfl))) (by decide) (backOf (W := 0) (rm4 l Z a0 hw [] r181 x181 (3 : Int32) [(.int (p1.toInt8.toInt32)), (.int (((p1.toUInt32 >>> ((8 : Int32) &&& 31).toUInt32).toInt32).toInt8.toInt32)), (.int (((p1.toUInt32 >>> ((16 : Int32) &&& 31).toUInt32).toInt32).toInt8.toInt32))] w_IN_PROGRESS w_CLAIMED h203 n0 Z210 OLD210 S_CLAIMED f206 f207 f208 f209 (by decide) (Fld.ne F_ordinal_IN_PROGRESS F_ordinal_CLAIMED (by simp))) hZ (hw _ (List.mem_of_getElem? (i := 55) rfl)) (hw _ (List.mem_of_getElem? (i := 4) rfl)) (by decide) (by decide)) q214a q214c (g := (mkF m 154 #[.val (.int p0), .val (.int p1), .val (.int (3 : Int32)), .val (.int (p1.toInt8.toInt32)), .val (.int (((p1.toUInt32 >>> ((8 : Int32) &&& 31).toUInt32).toInt32).toInt8.toInt32)), .val (.int (((p1.toUInt32 >>> ((16 : Int32) &&& 31).toUInt32).toInt32).toInt8.toInt32)), .val (.int (((p1.toUInt32 >>> ((24 : Int32) &&& 31).toUInt32).toInt32).toInt8.toInt32)), .val (.ref b170), .val (.ref r181), .unset, .unset] [(.ref r181)])) rfl (by rw [hml]; rfl) (Steps.refl _) (argsL := []) (rest := []) (lenOf pd____B rfl) rfl (by show 2 * 0 + _ ≤ _; exact Nat.le_of_eq rfl) (hb hby at_154) (fun _ _ => ⟨rfl, e213, (by decide : 5 + 1 ≤ _), (by decide : 135 + 4 ≤ _)⟩)
  dsimp only [Pt.U, Pt.locs, Pt.cells, Pt.slots] at X214 l214 y214 z214 st214 hQ214
  subst l214 y214 z214
  obtain ⟨r214, rfl, Sq214, N214q, Kq214, Vq214, Eq214⟩ := hQ214
  have N214 := Fr.app N212 N214q
  have ne_b170_r214 : b170 ≠ r214 := Nat.ne_of_lt (Nat.lt_of_lt_of_le (V203).lt Sq214)
  have ne_r181_r214 : r181 ≠ r214 := Nat.ne_of_lt (Nat.lt_of_lt_of_le (f205).lt Sq214)
  have ne_x181_r214 : x181 ≠ r214 := Nat.ne_of_lt (Nat.lt_of_lt_of_le (f208).lt Sq214)
  have q_r214 : n0 ≤ r214 := Nat.le_trans Z210 Sq214
  have sz_r214 : h0.size ≤ r214 := Nat.le_trans K210.1 Sq214
  have f215 := V203.keep Kq214 nin0
  have f216 := f204.keep Kq214
  have f217 := f205.keep Kq214
  have f218 := f206.keep Kq214 nin0
  have f219 := f207.keep Kq214 nin0
  have f220 := f208.keep Kq214 nin0
  have f221 := f209.keep Kq214
  have OLD222 := OLD210.keep Kq214 all0
  have K222 := K210.trans Kq214 all0
  have Z222 := Nat.le_trans Z210 Kq214.1
  have hk223 := Nat.le_trans hk211 Kq214.1
  refine ogoW (fun t k => st214.trans k) ?_
  show OwnEndsW _ _ _ _ _ _ _ (T214.setTop (mkF m 157 #[.val (.int p0), .val (.int p1), .val (.int (3 : Int32)), .val (.int (p1.toInt8.toInt32)), .val (.int (((p1.toUInt32 >>> ((8 : Int32) &&& 31).toUInt32).toInt32).toInt8.toInt32)), .val (.int (((p1.toUInt32 >>> ((16 : Int32) &&& 31).toUInt32).toInt32).toInt8.toInt32)), .val (.int (((p1.toUInt32 >>> ((24 : Int32) &&& 31).toUInt32).toInt32).toInt8.toInt32)), .val (.ref b170), .val (.ref r181), .unset, .unset] [(.ref r214)]))
  refine ogoW (fun t k => XS.astore X214.here hx rfl (hb hby at_157) rfl rfl (l' := #[.val (.int p0), .val (.int p1), .val (.int (3 : Int32)), .val (.int (p1.toInt8.toInt32)), .val (.int (((p1.toUInt32 >>> ((8 : Int32) &&& 31).toUInt32).toInt32).toInt8.toInt32)), .val (.int (((p1.toUInt32 >>> ((16 : Int32) &&& 31).toUInt32).toInt32).toInt8.toInt32)), .val (.int (((p1.toUInt32 >>> ((24 : Int32) &&& 31).toUInt32).toInt32).toInt8.toInt32)), .val (.ref b170), .val (.ref r181), .val (.ref r214), .unset]) rfl k) ?_
  show OwnEndsW _ _ _ _ _ _ _ (T214.setTop (mkF m 159 #[.val (.int p0), .val (.int p1), .val (.int (3 : Int32)), .val (.int (p1.toInt8.toInt32)), .val (.int (((p1.toUInt32 >>> ((8 : Int32) &&& 31).toUInt32).toInt32).toInt8.toInt32)), .val (.int (((p1.toUInt32 >>> ((16 : Int32) &&& 31).toUInt32).toInt32).toInt8.toInt32)), .val (.int (((p1.toUInt32 >>> ((24 : Int32) &&& 31).toUInt32).toInt32).toInt8.toInt32)), .val (.ref b170), .val (.ref r181), .val (.ref r214), .unset] []))
  refine ogoW (fun t k => XS.aload X214.here hx rfl (hb hby at_159) rfl rfl k) ?_
  show OwnEndsW _ _ _ _ _ _ _ (T214.setTop (mkF m 161 #[.val (.int p0), .val (.int p1), .val (.int (3 : Int32)), .val (.int (p1.toInt8.toInt32)), .val (.int (((p1.toUInt32 >>> ((8 : Int32) &&& 31).toUInt32).toInt32).toInt8.toInt32)), .val (.int (((p1.toUInt32 >>> ((16 : Int32) &&& 31).toUInt32).toInt32).toInt8.toInt32)), .val (.int (((p1.toUInt32 >>> ((24 : Int32) &&& 31).toUInt32).toInt32).toInt8.toInt32)), .val (.ref b170), .val (.ref r181), .val (.ref r214), .unset] [(.ref r214)]))
  refine ogoW (fun t k => XS.iloadN X214.here hx rfl (hb hby at_161) rfl k) ?_
  show OwnEndsW _ _ _ _ _ _ _ (T214.setTop (mkF m 162 #[.val (.int p0), .val (.int p1), .val (.int (3 : Int32)), .val (.int (p1.toInt8.toInt32)), .val (.int (((p1.toUInt32 >>> ((8 : Int32) &&& 31).toUInt32).toInt32).toInt8.toInt32)), .val (.int (((p1.toUInt32 >>> ((16 : Int32) &&& 31).toUInt32).toInt32).toInt8.toInt32)), .val (.int (((p1.toUInt32 >>> ((24 : Int32) &&& 31).toUInt32).toInt32).toInt8.toInt32)), .val (.ref b170), .val (.ref r181), .val (.ref r214), .unset] [(.int (3 : Int32)), (.ref r214)]))
  refine ogoW (fun t k => XS.iloadN X214.here hx rfl (hb hby at_162) rfl k) ?_
  show OwnEndsW _ _ _ _ _ _ _ (T214.setTop (mkF m 163 #[.val (.int p0), .val (.int p1), .val (.int (3 : Int32)), .val (.int (p1.toInt8.toInt32)), .val (.int (((p1.toUInt32 >>> ((8 : Int32) &&& 31).toUInt32).toInt32).toInt8.toInt32)), .val (.int (((p1.toUInt32 >>> ((16 : Int32) &&& 31).toUInt32).toInt32).toInt8.toInt32)), .val (.int (((p1.toUInt32 >>> ((24 : Int32) &&& 31).toUInt32).toInt32).toInt8.toInt32)), .val (.ref b170), .val (.ref r181), .val (.ref r214), .unset] [(.int (p1.toInt8.toInt32)), (.int (3 : Int32)), (.ref r214)]))
  refine ogoW (fun t k => XS.iload X214.here hx rfl (hb hby at_163) rfl k) ?_
  show OwnEndsW _ _ _ _ _ _ _ (T214.setTop (mkF m 165 #[.val (.int p0), .val (.int p1), .val (.int (3 : Int32)), .val (.int (p1.toInt8.toInt32)), .val (.int (((p1.toUInt32 >>> ((8 : Int32) &&& 31).toUInt32).toInt32).toInt8.toInt32)), .val (.int (((p1.toUInt32 >>> ((16 : Int32) &&& 31).toUInt32).toInt32).toInt8.toInt32)), .val (.int (((p1.toUInt32 >>> ((24 : Int32) &&& 31).toUInt32).toInt32).toInt8.toInt32)), .val (.ref b170), .val (.ref r181), .val (.ref r214), .unset] [(.int (((p1.toUInt32 >>> ((8 : Int32) &&& 31).toUInt32).toInt32).toInt8.toInt32)), (.int (p1.toInt8.toInt32)), (.int (3 : Int32)), (.ref r214)]))
  refine ogoW (fun t k => XS.iload X214.here hx rfl (hb hby at_165) rfl k) ?_
  show OwnEndsW _ _ _ _ _ _ _ (T214.setTop (mkF m 167 #[.val (.int p0), .val (.int p1), .val (.int (3 : Int32)), .val (.int (p1.toInt8.toInt32)), .val (.int (((p1.toUInt32 >>> ((8 : Int32) &&& 31).toUInt32).toInt32).toInt8.toInt32)), .val (.int (((p1.toUInt32 >>> ((16 : Int32) &&& 31).toUInt32).toInt32).toInt8.toInt32)), .val (.int (((p1.toUInt32 >>> ((24 : Int32) &&& 31).toUInt32).toInt32).toInt8.toInt32)), .val (.ref b170), .val (.ref r181), .val (.ref r214), .unset] [(.int (((p1.toUInt32 >>> ((16 : Int32) &&& 31).toUInt32).toInt32).toInt8.toInt32)), (.int (((p1.toUInt32 >>> ((8 : Int32) &&& 31).toUInt32).toInt32).toInt8.toInt32)), (.int (p1.toInt8.toInt32)), (.int (3 : Int32)), (.ref r214)]))
  refine ogoW (fun t k => XS.iload X214.here hx rfl (hb hby at_167) rfl k) ?_
  show OwnEndsW _ _ _ _ _ _ _ (T214.setTop (mkF m 169 #[.val (.int p0), .val (.int p1), .val (.int (3 : Int32)), .val (.int (p1.toInt8.toInt32)), .val (.int (((p1.toUInt32 >>> ((8 : Int32) &&& 31).toUInt32).toInt32).toInt8.toInt32)), .val (.int (((p1.toUInt32 >>> ((16 : Int32) &&& 31).toUInt32).toInt32).toInt8.toInt32)), .val (.int (((p1.toUInt32 >>> ((24 : Int32) &&& 31).toUInt32).toInt32).toInt8.toInt32)), .val (.ref b170), .val (.ref r181), .val (.ref r214), .unset] [(.int (((p1.toUInt32 >>> ((24 : Int32) &&& 31).toUInt32).toInt32).toInt8.toInt32)), (.int (((p1.toUInt32 >>> ((16 : Int32) &&& 31).toUInt32).toInt32).toInt8.toInt32)), (.int (((p1.toUInt32 >>> ((8 : Int32) &&& 31).toUInt32).toInt32).toInt8.toInt32)), (.int (p1.toInt8.toInt32)), (.int (3 : Int32)), (.ref r214)]))
  obtain ⟨v224, _, ⟨T224, L224, k224, n224⟩, -, X224, ⟨Lc224, hQ224, l224, y224, z224⟩, st224⟩ := Jvm.LawKit.callS X214 hx (y := (⟨"com/example/once_guard/onceguard/ClaimResultInProgressPinLaw", "same", "([BIBBBB)Z"⟩ : MethodName)) hown (mvT hZ (hw _ (List.mem_of_getElem? (i := 58) rfl))) (mvT hZ (hw _ (List.mem_of_getElem? (i := 59) rfl))) (mvT hZ (hw _ (List.mem_of_getElem? (i := 60) rfl))) (mvT hZ (hw _ (List.mem_of_getElem? (i := 61) rfl))) (by decide) (backOf (W := 0) (rm63 l Z a0 hw [] r214 (p1.toInt8.toInt32) (((p1.toUInt32 >>> ((8 : Int32) &&& 31).toUInt32).toInt32).toInt8.toInt32) (((p1.toUInt32 >>> ((16 : Int32) &&& 31).toUInt32).toInt32).toInt8.toInt32) (((p1.toUInt32 >>> ((24 : Int32) &&& 31).toUInt32).toInt32).toInt8.toInt32) T214.heap n0 Z222 Vq214) hZ (hw _ (List.mem_of_getElem? (i := 61) rfl)) (hw _ (List.mem_of_getElem? (i := 60) rfl)) (by decide) (by decide)) (g := (mkF m 169 #[.val (.int p0), .val (.int p1), .val (.int (3 : Int32)), .val (.int (p1.toInt8.toInt32)), .val (.int (((p1.toUInt32 >>> ((8 : Int32) &&& 31).toUInt32).toInt32).toInt8.toInt32)), .val (.int (((p1.toUInt32 >>> ((16 : Int32) &&& 31).toUInt32).toInt32).toInt8.toInt32)), .val (.int (((p1.toUInt32 >>> ((24 : Int32) &&& 31).toUInt32).toInt32).toInt8.toInt32)), .val (.ref b170), .val (.ref r181), .val (.ref r214), .unset] [(.int (((p1.toUInt32 >>> ((24 : Int32) &&& 31).toUInt32).toInt32).toInt8.toInt32)), (.int (((p1.toUInt32 >>> ((16 : Int32) &&& 31).toUInt32).toInt32).toInt8.toInt32)), (.int (((p1.toUInt32 >>> ((8 : Int32) &&& 31).toUInt32).toInt32).toInt8.toInt32)), (.int (p1.toInt8.toInt32)), (.int (3 : Int32)), (.ref r214)])) rfl (by rw [hml]; rfl) (argsL := [(.ref r214), (.int (3 : Int32)), (.int (p1.toInt8.toInt32)), (.int (((p1.toUInt32 >>> ((8 : Int32) &&& 31).toUInt32).toInt32).toInt8.toInt32)), (.int (((p1.toUInt32 >>> ((16 : Int32) &&& 31).toUInt32).toInt32).toInt8.toInt32)), (.int (((p1.toUInt32 >>> ((24 : Int32) &&& 31).toUInt32).toInt32).toInt8.toInt32))]) (rest := []) (lenOf pd___BIBBBB_Z rfl) rfl (by show 2 * 0 + _ ≤ _; exact Nat.le_of_eq rfl) (hb hby at_169) (fun _ _ => ⟨rfl, rfl, (by decide : 6 + 0 ≤ _), (by decide : 139 + 0 ≤ _)⟩)
  dsimp only [Pt.U, Pt.locs, Pt.cells, Pt.slots] at X224 l224 y224 z224 st224 hQ224
  subst l224 y224 z224
  obtain ⟨rfl, N224q, e224⟩ := hQ224
  have N224 := Fr.app N214 N224q
  refine ogoW (fun t k => st224 t k) ?_
  show OwnEndsW _ _ _ _ _ _ _ (T224.setTop (mkF m 172 #[.val (.int p0), .val (.int p1), .val (.int (3 : Int32)), .val (.int (p1.toInt8.toInt32)), .val (.int (((p1.toUInt32 >>> ((8 : Int32) &&& 31).toUInt32).toInt32).toInt8.toInt32)), .val (.int (((p1.toUInt32 >>> ((16 : Int32) &&& 31).toUInt32).toInt32).toInt8.toInt32)), .val (.int (((p1.toUInt32 >>> ((24 : Int32) &&& 31).toUInt32).toInt32).toInt8.toInt32)), .val (.ref b170), .val (.ref r181), .val (.ref r214), .unset] [(.int (1 : Int32))]))
  refine ogoW (fun t k => XS.ifYes X224.here hx rfl (pc0 := 172) (pc' := 177) rfl (hb hby at_172) rfl ((if0 _ _).trans (feq (by decide : ¬ ((1 : Int32) = (0 : Int32)))).2) (by decide) (by decide) k) ?_
  show OwnEndsW _ _ _ _ _ _ _ (T224.setTop (mkF m 177 #[.val (.int p0), .val (.int p1), .val (.int (3 : Int32)), .val (.int (p1.toInt8.toInt32)), .val (.int (((p1.toUInt32 >>> ((8 : Int32) &&& 31).toUInt32).toInt32).toInt8.toInt32)), .val (.int (((p1.toUInt32 >>> ((16 : Int32) &&& 31).toUInt32).toInt32).toInt8.toInt32)), .val (.int (((p1.toUInt32 >>> ((24 : Int32) &&& 31).toUInt32).toInt32).toInt8.toInt32)), .val (.ref b170), .val (.ref r181), .val (.ref r214), .unset] []))
  refine ogoW (fun t k => XS.iloadN X224.here hx rfl (hb hby at_177) rfl k) ?_
  show OwnEndsW _ _ _ _ _ _ _ (T224.setTop (mkF m 178 #[.val (.int p0), .val (.int p1), .val (.int (3 : Int32)), .val (.int (p1.toInt8.toInt32)), .val (.int (((p1.toUInt32 >>> ((8 : Int32) &&& 31).toUInt32).toInt32).toInt8.toInt32)), .val (.int (((p1.toUInt32 >>> ((16 : Int32) &&& 31).toUInt32).toInt32).toInt8.toInt32)), .val (.int (((p1.toUInt32 >>> ((24 : Int32) &&& 31).toUInt32).toInt32).toInt8.toInt32)), .val (.ref b170), .val (.ref r181), .val (.ref r214), .unset] [(.int (3 : Int32))]))
  refine ogoW (fun t k => XS.ifNo X224.here hx rfl (hb hby at_178) rfl ((if0 _ _).trans (tlt (by decide : (0 : Int32) < (3 : Int32))).2.2.2) k) ?_
  show OwnEndsW _ _ _ _ _ _ _ (T224.setTop (mkF m 181 #[.val (.int p0), .val (.int p1), .val (.int (3 : Int32)), .val (.int (p1.toInt8.toInt32)), .val (.int (((p1.toUInt32 >>> ((8 : Int32) &&& 31).toUInt32).toInt32).toInt8.toInt32)), .val (.int (((p1.toUInt32 >>> ((16 : Int32) &&& 31).toUInt32).toInt32).toInt8.toInt32)), .val (.int (((p1.toUInt32 >>> ((24 : Int32) &&& 31).toUInt32).toInt32).toInt8.toInt32)), .val (.ref b170), .val (.ref r181), .val (.ref r214), .unset] []))
  refine ogoW (fun t k => XS.aload X224.here hx rfl (hb hby at_181) rfl rfl k) ?_
  show OwnEndsW _ _ _ _ _ _ _ (T224.setTop (mkF m 183 #[.val (.int p0), .val (.int p1), .val (.int (3 : Int32)), .val (.int (p1.toInt8.toInt32)), .val (.int (((p1.toUInt32 >>> ((8 : Int32) &&& 31).toUInt32).toInt32).toInt8.toInt32)), .val (.int (((p1.toUInt32 >>> ((16 : Int32) &&& 31).toUInt32).toInt32).toInt8.toInt32)), .val (.int (((p1.toUInt32 >>> ((24 : Int32) &&& 31).toUInt32).toInt32).toInt8.toInt32)), .val (.ref b170), .val (.ref r181), .val (.ref r214), .unset] [(.ref r214)]))
  refine ogoW (fun t k => XS.iconst X224.here hx rfl (hb hby at_183) k) ?_
  show OwnEndsW _ _ _ _ _ _ _ (T224.setTop (mkF m 184 #[.val (.int p0), .val (.int p1), .val (.int (3 : Int32)), .val (.int (p1.toInt8.toInt32)), .val (.int (((p1.toUInt32 >>> ((8 : Int32) &&& 31).toUInt32).toInt32).toInt8.toInt32)), .val (.int (((p1.toUInt32 >>> ((16 : Int32) &&& 31).toUInt32).toInt32).toInt8.toInt32)), .val (.int (((p1.toUInt32 >>> ((24 : Int32) &&& 31).toUInt32).toInt32).toInt8.toInt32)), .val (.ref b170), .val (.ref r181), .val (.ref r214), .unset] [(.int (0 : Int32)), (.ref r214)]))
  refine ogoW (fun t k => XS.iloadN X224.here hx rfl (hb hby at_184) rfl k) ?_
  show OwnEndsW _ _ _ _ _ _ _ (T224.setTop (mkF m 185 #[.val (.int p0), .val (.int p1), .val (.int (3 : Int32)), .val (.int (p1.toInt8.toInt32)), .val (.int (((p1.toUInt32 >>> ((8 : Int32) &&& 31).toUInt32).toInt32).toInt8.toInt32)), .val (.int (((p1.toUInt32 >>> ((16 : Int32) &&& 31).toUInt32).toInt32).toInt8.toInt32)), .val (.int (((p1.toUInt32 >>> ((24 : Int32) &&& 31).toUInt32).toInt32).toInt8.toInt32)), .val (.ref b170), .val (.ref r181), .val (.ref r214), .unset] [(.int (p1.toInt8.toInt32)), (.int (0 : Int32)), (.ref r214)]))
  refine ogoW (fun t k => XS.iconst X224.here hx rfl (hb hby at_185) k) ?_
  show OwnEndsW _ _ _ _ _ _ _ (T224.setTop (mkF m 186 #[.val (.int p0), .val (.int p1), .val (.int (3 : Int32)), .val (.int (p1.toInt8.toInt32)), .val (.int (((p1.toUInt32 >>> ((8 : Int32) &&& 31).toUInt32).toInt32).toInt8.toInt32)), .val (.int (((p1.toUInt32 >>> ((16 : Int32) &&& 31).toUInt32).toInt32).toInt8.toInt32)), .val (.int (((p1.toUInt32 >>> ((24 : Int32) &&& 31).toUInt32).toInt32).toInt8.toInt32)), .val (.ref b170), .val (.ref r181), .val (.ref r214), .unset] [(.int (-1 : Int32)), (.int (p1.toInt8.toInt32)), (.int (0 : Int32)), (.ref r214)]))
  refine ogoW (fun t k => XS.ixor X224.here hx rfl (hb hby at_186) rfl k) ?_
  show OwnEndsW _ _ _ _ _ _ _ (T224.setTop (mkF m 187 #[.val (.int p0), .val (.int p1), .val (.int (3 : Int32)), .val (.int (p1.toInt8.toInt32)), .val (.int (((p1.toUInt32 >>> ((8 : Int32) &&& 31).toUInt32).toInt32).toInt8.toInt32)), .val (.int (((p1.toUInt32 >>> ((16 : Int32) &&& 31).toUInt32).toInt32).toInt8.toInt32)), .val (.int (((p1.toUInt32 >>> ((24 : Int32) &&& 31).toUInt32).toInt32).toInt8.toInt32)), .val (.ref b170), .val (.ref r181), .val (.ref r214), .unset] [(.int ((p1.toInt8.toInt32) ^^^ (-1 : Int32))), (.int (0 : Int32)), (.ref r214)]))
  refine ogoW (fun t k => XS.i2b X224.here hx rfl (hb hby at_187) rfl k) ?_
  show OwnEndsW _ _ _ _ _ _ _ (T224.setTop (mkF m 188 #[.val (.int p0), .val (.int p1), .val (.int (3 : Int32)), .val (.int (p1.toInt8.toInt32)), .val (.int (((p1.toUInt32 >>> ((8 : Int32) &&& 31).toUInt32).toInt32).toInt8.toInt32)), .val (.int (((p1.toUInt32 >>> ((16 : Int32) &&& 31).toUInt32).toInt32).toInt8.toInt32)), .val (.int (((p1.toUInt32 >>> ((24 : Int32) &&& 31).toUInt32).toInt32).toInt8.toInt32)), .val (.ref b170), .val (.ref r181), .val (.ref r214), .unset] [(.int (((p1.toInt8.toInt32) ^^^ (-1 : Int32)).toInt8.toInt32)), (.int (0 : Int32)), (.ref r214)]))
  obtain ⟨ak225, cl225, Ar225, Aq225, As225, An225, Ah225, Ag225⟩ := id Vq214
  obtain ⟨T225, h225, X225, e225, W225, st225⟩ := stB X224 hx hZ e224 Ar225 (j := (0 : Int32)) (inb_of As225 ⟨by decide, by decide⟩) (g := (mkF m 188 #[.val (.int p0), .val (.int p1), .val (.int (3 : Int32)), .val (.int (p1.toInt8.toInt32)), .val (.int (((p1.toUInt32 >>> ((8 : Int32) &&& 31).toUInt32).toInt32).toInt8.toInt32)), .val (.int (((p1.toUInt32 >>> ((16 : Int32) &&& 31).toUInt32).toInt32).toInt8.toInt32)), .val (.int (((p1.toUInt32 >>> ((24 : Int32) &&& 31).toUInt32).toInt32).toInt8.toInt32)), .val (.ref b170), .val (.ref r181), .val (.ref r214), .unset] [(.int (((p1.toInt8.toInt32) ^^^ (-1 : Int32)).toInt8.toInt32)), (.int (0 : Int32)), (.ref r214)])) rfl rfl (hb hby at_188)
  rw [own_narb] at W225
  have V225 : Arv Z h225 r214 ak225 .byte (3 : Int32) [(.int (((p1.toInt8.toInt32) ^^^ (-1 : Int32)).toInt8.toInt32)), (.int (((p1.toUInt32 >>> ((8 : Int32) &&& 31).toUInt32).toInt32).toInt8.toInt32)), (.int (((p1.toUInt32 >>> ((16 : Int32) &&& 31).toUInt32).toInt32).toInt8.toInt32))] (.int (0 : Int32)) := Arv.set Ar225 Aq225 As225 An225 Ah225 Ag225 (fits_nar_byte _) W225 0 rfl (Nat.le_of_ble_eq_true rfl)
  have f226 := f215.other W225 ne_b170_r214
  have f227 := f216.wr W225
  have f228 := f217.wr W225
  have f229 := f218.other W225 (Or.inl ne_r181_r214)
  have f230 := f219.other W225 (Or.inl ne_r181_r214)
  have f231 := f220.other W225 ne_x181_r214
  have f232 := f221.wr W225
  have f233 := Eq214.wr W225
  have N234 := Fr.snoc X225 N224 q_r214
  have OLD234 := OLD222.wr W225 q_r214
  have K234 := K222.wr W225 (Or.inr sz_r214)
  have Z234 := Nat.le_trans Z222 (Nat.le_of_eq W225.size.symm)
  have hk235 := Nat.le_trans hk223 (Nat.le_of_eq W225.size.symm)
  refine ogoW st225 ?_
  show OwnEndsW _ _ _ _ _ _ _ (T225.setTop (mkF m 189 #[.val (.int p0), .val (.int p1), .val (.int (3 : Int32)), .val (.int (p1.toInt8.toInt32)), .val (.int (((p1.toUInt32 >>> ((8 : Int32) &&& 31).toUInt32).toInt32).toInt8.toInt32)), .val (.int (((p1.toUInt32 >>> ((16 : Int32) &&& 31).toUInt32).toInt32).toInt8.toInt32)), .val (.int (((p1.toUInt32 >>> ((24 : Int32) &&& 31).toUInt32).toInt32).toInt8.toInt32)), .val (.ref b170), .val (.ref r181), .val (.ref r214), .unset] []))
  refine ogoW (fun t k => XS.iloadN X225.here hx rfl (hb hby at_189) rfl k) ?_
  show OwnEndsW _ _ _ _ _ _ _ (T225.setTop (mkF m 190 #[.val (.int p0), .val (.int p1), .val (.int (3 : Int32)), .val (.int (p1.toInt8.toInt32)), .val (.int (((p1.toUInt32 >>> ((8 : Int32) &&& 31).toUInt32).toInt32).toInt8.toInt32)), .val (.int (((p1.toUInt32 >>> ((16 : Int32) &&& 31).toUInt32).toInt32).toInt8.toInt32)), .val (.int (((p1.toUInt32 >>> ((24 : Int32) &&& 31).toUInt32).toInt32).toInt8.toInt32)), .val (.ref b170), .val (.ref r181), .val (.ref r214), .unset] [(.int (3 : Int32))]))
  refine ogoW (fun t k => XS.iconst X225.here hx rfl (hb hby at_190) k) ?_
  show OwnEndsW _ _ _ _ _ _ _ (T225.setTop (mkF m 191 #[.val (.int p0), .val (.int p1), .val (.int (3 : Int32)), .val (.int (p1.toInt8.toInt32)), .val (.int (((p1.toUInt32 >>> ((8 : Int32) &&& 31).toUInt32).toInt32).toInt8.toInt32)), .val (.int (((p1.toUInt32 >>> ((16 : Int32) &&& 31).toUInt32).toInt32).toInt8.toInt32)), .val (.int (((p1.toUInt32 >>> ((24 : Int32) &&& 31).toUInt32).toInt32).toInt8.toInt32)), .val (.ref b170), .val (.ref r181), .val (.ref r214), .unset] [(.int (1 : Int32)), (.int (3 : Int32))]))
  refine ogoW (fun t k => XS.icmpNo X225.here hx rfl (hb hby at_191) rfl (tlt (by decide : (1 : Int32) < (3 : Int32))).2.2.2 k) ?_
  show OwnEndsW _ _ _ _ _ _ _ (T225.setTop (mkF m 194 #[.val (.int p0), .val (.int p1), .val (.int (3 : Int32)), .val (.int (p1.toInt8.toInt32)), .val (.int (((p1.toUInt32 >>> ((8 : Int32) &&& 31).toUInt32).toInt32).toInt8.toInt32)), .val (.int (((p1.toUInt32 >>> ((16 : Int32) &&& 31).toUInt32).toInt32).toInt8.toInt32)), .val (.int (((p1.toUInt32 >>> ((24 : Int32) &&& 31).toUInt32).toInt32).toInt8.toInt32)), .val (.ref b170), .val (.ref r181), .val (.ref r214), .unset] []))
  refine ogoW (fun t k => XS.aload X225.here hx rfl (hb hby at_194) rfl rfl k) ?_
  show OwnEndsW _ _ _ _ _ _ _ (T225.setTop (mkF m 196 #[.val (.int p0), .val (.int p1), .val (.int (3 : Int32)), .val (.int (p1.toInt8.toInt32)), .val (.int (((p1.toUInt32 >>> ((8 : Int32) &&& 31).toUInt32).toInt32).toInt8.toInt32)), .val (.int (((p1.toUInt32 >>> ((16 : Int32) &&& 31).toUInt32).toInt32).toInt8.toInt32)), .val (.int (((p1.toUInt32 >>> ((24 : Int32) &&& 31).toUInt32).toInt32).toInt8.toInt32)), .val (.ref b170), .val (.ref r181), .val (.ref r214), .unset] [(.ref r214)]))
  refine ogoW (fun t k => XS.iconst X225.here hx rfl (hb hby at_196) k) ?_
  show OwnEndsW _ _ _ _ _ _ _ (T225.setTop (mkF m 197 #[.val (.int p0), .val (.int p1), .val (.int (3 : Int32)), .val (.int (p1.toInt8.toInt32)), .val (.int (((p1.toUInt32 >>> ((8 : Int32) &&& 31).toUInt32).toInt32).toInt8.toInt32)), .val (.int (((p1.toUInt32 >>> ((16 : Int32) &&& 31).toUInt32).toInt32).toInt8.toInt32)), .val (.int (((p1.toUInt32 >>> ((24 : Int32) &&& 31).toUInt32).toInt32).toInt8.toInt32)), .val (.ref b170), .val (.ref r181), .val (.ref r214), .unset] [(.int (1 : Int32)), (.ref r214)]))
  refine ogoW (fun t k => XS.iload X225.here hx rfl (hb hby at_197) rfl k) ?_
  show OwnEndsW _ _ _ _ _ _ _ (T225.setTop (mkF m 199 #[.val (.int p0), .val (.int p1), .val (.int (3 : Int32)), .val (.int (p1.toInt8.toInt32)), .val (.int (((p1.toUInt32 >>> ((8 : Int32) &&& 31).toUInt32).toInt32).toInt8.toInt32)), .val (.int (((p1.toUInt32 >>> ((16 : Int32) &&& 31).toUInt32).toInt32).toInt8.toInt32)), .val (.int (((p1.toUInt32 >>> ((24 : Int32) &&& 31).toUInt32).toInt32).toInt8.toInt32)), .val (.ref b170), .val (.ref r181), .val (.ref r214), .unset] [(.int (((p1.toUInt32 >>> ((8 : Int32) &&& 31).toUInt32).toInt32).toInt8.toInt32)), (.int (1 : Int32)), (.ref r214)]))
  refine ogoW (fun t k => XS.iconst X225.here hx rfl (hb hby at_199) k) ?_
  show OwnEndsW _ _ _ _ _ _ _ (T225.setTop (mkF m 200 #[.val (.int p0), .val (.int p1), .val (.int (3 : Int32)), .val (.int (p1.toInt8.toInt32)), .val (.int (((p1.toUInt32 >>> ((8 : Int32) &&& 31).toUInt32).toInt32).toInt8.toInt32)), .val (.int (((p1.toUInt32 >>> ((16 : Int32) &&& 31).toUInt32).toInt32).toInt8.toInt32)), .val (.int (((p1.toUInt32 >>> ((24 : Int32) &&& 31).toUInt32).toInt32).toInt8.toInt32)), .val (.ref b170), .val (.ref r181), .val (.ref r214), .unset] [(.int (-1 : Int32)), (.int (((p1.toUInt32 >>> ((8 : Int32) &&& 31).toUInt32).toInt32).toInt8.toInt32)), (.int (1 : Int32)), (.ref r214)]))
  refine ogoW (fun t k => XS.ixor X225.here hx rfl (hb hby at_200) rfl k) ?_
  show OwnEndsW _ _ _ _ _ _ _ (T225.setTop (mkF m 201 #[.val (.int p0), .val (.int p1), .val (.int (3 : Int32)), .val (.int (p1.toInt8.toInt32)), .val (.int (((p1.toUInt32 >>> ((8 : Int32) &&& 31).toUInt32).toInt32).toInt8.toInt32)), .val (.int (((p1.toUInt32 >>> ((16 : Int32) &&& 31).toUInt32).toInt32).toInt8.toInt32)), .val (.int (((p1.toUInt32 >>> ((24 : Int32) &&& 31).toUInt32).toInt32).toInt8.toInt32)), .val (.ref b170), .val (.ref r181), .val (.ref r214), .unset] [(.int ((((p1.toUInt32 >>> ((8 : Int32) &&& 31).toUInt32).toInt32).toInt8.toInt32) ^^^ (-1 : Int32))), (.int (1 : Int32)), (.ref r214)]))
  refine ogoW (fun t k => XS.i2b X225.here hx rfl (hb hby at_201) rfl k) ?_
  show OwnEndsW _ _ _ _ _ _ _ (T225.setTop (mkF m 202 #[.val (.int p0), .val (.int p1), .val (.int (3 : Int32)), .val (.int (p1.toInt8.toInt32)), .val (.int (((p1.toUInt32 >>> ((8 : Int32) &&& 31).toUInt32).toInt32).toInt8.toInt32)), .val (.int (((p1.toUInt32 >>> ((16 : Int32) &&& 31).toUInt32).toInt32).toInt8.toInt32)), .val (.int (((p1.toUInt32 >>> ((24 : Int32) &&& 31).toUInt32).toInt32).toInt8.toInt32)), .val (.ref b170), .val (.ref r181), .val (.ref r214), .unset] [(.int (((((p1.toUInt32 >>> ((8 : Int32) &&& 31).toUInt32).toInt32).toInt8.toInt32) ^^^ (-1 : Int32)).toInt8.toInt32)), (.int (1 : Int32)), (.ref r214)]))
  obtain ⟨cl236, Ar236, Aq236, As236, An236, Ah236, Ag236⟩ := id V225
  obtain ⟨T236, h236, X236, e236, W236, st236⟩ := stB X225 hx hZ e225 Ar236 (j := (1 : Int32)) (inb_of As236 ⟨by decide, by decide⟩) (g := (mkF m 202 #[.val (.int p0), .val (.int p1), .val (.int (3 : Int32)), .val (.int (p1.toInt8.toInt32)), .val (.int (((p1.toUInt32 >>> ((8 : Int32) &&& 31).toUInt32).toInt32).toInt8.toInt32)), .val (.int (((p1.toUInt32 >>> ((16 : Int32) &&& 31).toUInt32).toInt32).toInt8.toInt32)), .val (.int (((p1.toUInt32 >>> ((24 : Int32) &&& 31).toUInt32).toInt32).toInt8.toInt32)), .val (.ref b170), .val (.ref r181), .val (.ref r214), .unset] [(.int (((((p1.toUInt32 >>> ((8 : Int32) &&& 31).toUInt32).toInt32).toInt8.toInt32) ^^^ (-1 : Int32)).toInt8.toInt32)), (.int (1 : Int32)), (.ref r214)])) rfl rfl (hb hby at_202)
  rw [own_narb] at W236
  have V236 : Arv Z h236 r214 ak225 .byte (3 : Int32) [(.int (((p1.toInt8.toInt32) ^^^ (-1 : Int32)).toInt8.toInt32)), (.int (((((p1.toUInt32 >>> ((8 : Int32) &&& 31).toUInt32).toInt32).toInt8.toInt32) ^^^ (-1 : Int32)).toInt8.toInt32)), (.int (((p1.toUInt32 >>> ((16 : Int32) &&& 31).toUInt32).toInt32).toInt8.toInt32))] (.int (0 : Int32)) := Arv.set Ar236 Aq236 As236 An236 Ah236 Ag236 (fits_nar_byte _) W236 1 rfl (Nat.le_of_ble_eq_true rfl)
  have f237 := f226.other W236 ne_b170_r214
  have f238 := f227.wr W236
  have f239 := f228.wr W236
  have f240 := f229.other W236 (Or.inl ne_r181_r214)
  have f241 := f230.other W236 (Or.inl ne_r181_r214)
  have f242 := f231.other W236 ne_x181_r214
  have f243 := f232.wr W236
  have f244 := f233.wr W236
  have N245 := Fr.snoc X236 N234 q_r214
  have OLD245 := OLD234.wr W236 q_r214
  have K245 := K234.wr W236 (Or.inr sz_r214)
  have Z245 := Nat.le_trans Z234 (Nat.le_of_eq W236.size.symm)
  have hk246 := Nat.le_trans hk235 (Nat.le_of_eq W236.size.symm)
  refine ogoW st236 ?_
  show OwnEndsW _ _ _ _ _ _ _ (T236.setTop (mkF m 203 #[.val (.int p0), .val (.int p1), .val (.int (3 : Int32)), .val (.int (p1.toInt8.toInt32)), .val (.int (((p1.toUInt32 >>> ((8 : Int32) &&& 31).toUInt32).toInt32).toInt8.toInt32)), .val (.int (((p1.toUInt32 >>> ((16 : Int32) &&& 31).toUInt32).toInt32).toInt8.toInt32)), .val (.int (((p1.toUInt32 >>> ((24 : Int32) &&& 31).toUInt32).toInt32).toInt8.toInt32)), .val (.ref b170), .val (.ref r181), .val (.ref r214), .unset] []))
  refine ogoW (fun t k => XS.iloadN X236.here hx rfl (hb hby at_203) rfl k) ?_
  show OwnEndsW _ _ _ _ _ _ _ (T236.setTop (mkF m 204 #[.val (.int p0), .val (.int p1), .val (.int (3 : Int32)), .val (.int (p1.toInt8.toInt32)), .val (.int (((p1.toUInt32 >>> ((8 : Int32) &&& 31).toUInt32).toInt32).toInt8.toInt32)), .val (.int (((p1.toUInt32 >>> ((16 : Int32) &&& 31).toUInt32).toInt32).toInt8.toInt32)), .val (.int (((p1.toUInt32 >>> ((24 : Int32) &&& 31).toUInt32).toInt32).toInt8.toInt32)), .val (.ref b170), .val (.ref r181), .val (.ref r214), .unset] [(.int (3 : Int32))]))
  refine ogoW (fun t k => XS.iconst X236.here hx rfl (hb hby at_204) k) ?_
  show OwnEndsW _ _ _ _ _ _ _ (T236.setTop (mkF m 205 #[.val (.int p0), .val (.int p1), .val (.int (3 : Int32)), .val (.int (p1.toInt8.toInt32)), .val (.int (((p1.toUInt32 >>> ((8 : Int32) &&& 31).toUInt32).toInt32).toInt8.toInt32)), .val (.int (((p1.toUInt32 >>> ((16 : Int32) &&& 31).toUInt32).toInt32).toInt8.toInt32)), .val (.int (((p1.toUInt32 >>> ((24 : Int32) &&& 31).toUInt32).toInt32).toInt8.toInt32)), .val (.ref b170), .val (.ref r181), .val (.ref r214), .unset] [(.int (2 : Int32)), (.int (3 : Int32))]))
  refine ogoW (fun t k => XS.icmpNo X236.here hx rfl (hb hby at_205) rfl (tlt (by decide : (2 : Int32) < (3 : Int32))).2.2.2 k) ?_
  show OwnEndsW _ _ _ _ _ _ _ (T236.setTop (mkF m 208 #[.val (.int p0), .val (.int p1), .val (.int (3 : Int32)), .val (.int (p1.toInt8.toInt32)), .val (.int (((p1.toUInt32 >>> ((8 : Int32) &&& 31).toUInt32).toInt32).toInt8.toInt32)), .val (.int (((p1.toUInt32 >>> ((16 : Int32) &&& 31).toUInt32).toInt32).toInt8.toInt32)), .val (.int (((p1.toUInt32 >>> ((24 : Int32) &&& 31).toUInt32).toInt32).toInt8.toInt32)), .val (.ref b170), .val (.ref r181), .val (.ref r214), .unset] []))
  refine ogoW (fun t k => XS.aload X236.here hx rfl (hb hby at_208) rfl rfl k) ?_
  show OwnEndsW _ _ _ _ _ _ _ (T236.setTop (mkF m 210 #[.val (.int p0), .val (.int p1), .val (.int (3 : Int32)), .val (.int (p1.toInt8.toInt32)), .val (.int (((p1.toUInt32 >>> ((8 : Int32) &&& 31).toUInt32).toInt32).toInt8.toInt32)), .val (.int (((p1.toUInt32 >>> ((16 : Int32) &&& 31).toUInt32).toInt32).toInt8.toInt32)), .val (.int (((p1.toUInt32 >>> ((24 : Int32) &&& 31).toUInt32).toInt32).toInt8.toInt32)), .val (.ref b170), .val (.ref r181), .val (.ref r214), .unset] [(.ref r214)]))
  refine ogoW (fun t k => XS.iconst X236.here hx rfl (hb hby at_210) k) ?_
  show OwnEndsW _ _ _ _ _ _ _ (T236.setTop (mkF m 211 #[.val (.int p0), .val (.int p1), .val (.int (3 : Int32)), .val (.int (p1.toInt8.toInt32)), .val (.int (((p1.toUInt32 >>> ((8 : Int32) &&& 31).toUInt32).toInt32).toInt8.toInt32)), .val (.int (((p1.toUInt32 >>> ((16 : Int32) &&& 31).toUInt32).toInt32).toInt8.toInt32)), .val (.int (((p1.toUInt32 >>> ((24 : Int32) &&& 31).toUInt32).toInt32).toInt8.toInt32)), .val (.ref b170), .val (.ref r181), .val (.ref r214), .unset] [(.int (2 : Int32)), (.ref r214)]))
  refine ogoW (fun t k => XS.iload X236.here hx rfl (hb hby at_211) rfl k) ?_
  show OwnEndsW _ _ _ _ _ _ _ (T236.setTop (mkF m 213 #[.val (.int p0), .val (.int p1), .val (.int (3 : Int32)), .val (.int (p1.toInt8.toInt32)), .val (.int (((p1.toUInt32 >>> ((8 : Int32) &&& 31).toUInt32).toInt32).toInt8.toInt32)), .val (.int (((p1.toUInt32 >>> ((16 : Int32) &&& 31).toUInt32).toInt32).toInt8.toInt32)), .val (.int (((p1.toUInt32 >>> ((24 : Int32) &&& 31).toUInt32).toInt32).toInt8.toInt32)), .val (.ref b170), .val (.ref r181), .val (.ref r214), .unset] [(.int (((p1.toUInt32 >>> ((16 : Int32) &&& 31).toUInt32).toInt32).toInt8.toInt32)), (.int (2 : Int32)), (.ref r214)]))
  refine ogoW (fun t k => XS.iconst X236.here hx rfl (hb hby at_213) k) ?_
  show OwnEndsW _ _ _ _ _ _ _ (T236.setTop (mkF m 214 #[.val (.int p0), .val (.int p1), .val (.int (3 : Int32)), .val (.int (p1.toInt8.toInt32)), .val (.int (((p1.toUInt32 >>> ((8 : Int32) &&& 31).toUInt32).toInt32).toInt8.toInt32)), .val (.int (((p1.toUInt32 >>> ((16 : Int32) &&& 31).toUInt32).toInt32).toInt8.toInt32)), .val (.int (((p1.toUInt32 >>> ((24 : Int32) &&& 31).toUInt32).toInt32).toInt8.toInt32)), .val (.ref b170), .val (.ref r181), .val (.ref r214), .unset] [(.int (-1 : Int32)), (.int (((p1.toUInt32 >>> ((16 : Int32) &&& 31).toUInt32).toInt32).toInt8.toInt32)), (.int (2 : Int32)), (.ref r214)]))
  refine ogoW (fun t k => XS.ixor X236.here hx rfl (hb hby at_214) rfl k) ?_
  show OwnEndsW _ _ _ _ _ _ _ (T236.setTop (mkF m 215 #[.val (.int p0), .val (.int p1), .val (.int (3 : Int32)), .val (.int (p1.toInt8.toInt32)), .val (.int (((p1.toUInt32 >>> ((8 : Int32) &&& 31).toUInt32).toInt32).toInt8.toInt32)), .val (.int (((p1.toUInt32 >>> ((16 : Int32) &&& 31).toUInt32).toInt32).toInt8.toInt32)), .val (.int (((p1.toUInt32 >>> ((24 : Int32) &&& 31).toUInt32).toInt32).toInt8.toInt32)), .val (.ref b170), .val (.ref r181), .val (.ref r214), .unset] [(.int ((((p1.toUInt32 >>> ((16 : Int32) &&& 31).toUInt32).toInt32).toInt8.toInt32) ^^^ (-1 : Int32))), (.int (2 : Int32)), (.ref r214)]))
  refine ogoW (fun t k => XS.i2b X236.here hx rfl (hb hby at_215) rfl k) ?_
  show OwnEndsW _ _ _ _ _ _ _ (T236.setTop (mkF m 216 #[.val (.int p0), .val (.int p1), .val (.int (3 : Int32)), .val (.int (p1.toInt8.toInt32)), .val (.int (((p1.toUInt32 >>> ((8 : Int32) &&& 31).toUInt32).toInt32).toInt8.toInt32)), .val (.int (((p1.toUInt32 >>> ((16 : Int32) &&& 31).toUInt32).toInt32).toInt8.toInt32)), .val (.int (((p1.toUInt32 >>> ((24 : Int32) &&& 31).toUInt32).toInt32).toInt8.toInt32)), .val (.ref b170), .val (.ref r181), .val (.ref r214), .unset] [(.int (((((p1.toUInt32 >>> ((16 : Int32) &&& 31).toUInt32).toInt32).toInt8.toInt32) ^^^ (-1 : Int32)).toInt8.toInt32)), (.int (2 : Int32)), (.ref r214)]))
  obtain ⟨cl247, Ar247, Aq247, As247, An247, Ah247, Ag247⟩ := id V236
  obtain ⟨T247, h247, X247, e247, W247, st247⟩ := stB X236 hx hZ e236 Ar247 (j := (2 : Int32)) (inb_of As247 ⟨by decide, by decide⟩) (g := (mkF m 216 #[.val (.int p0), .val (.int p1), .val (.int (3 : Int32)), .val (.int (p1.toInt8.toInt32)), .val (.int (((p1.toUInt32 >>> ((8 : Int32) &&& 31).toUInt32).toInt32).toInt8.toInt32)), .val (.int (((p1.toUInt32 >>> ((16 : Int32) &&& 31).toUInt32).toInt32).toInt8.toInt32)), .val (.int (((p1.toUInt32 >>> ((24 : Int32) &&& 31).toUInt32).toInt32).toInt8.toInt32)), .val (.ref b170), .val (.ref r181), .val (.ref r214), .unset] [(.int (((((p1.toUInt32 >>> ((16 : Int32) &&& 31).toUInt32).toInt32).toInt8.toInt32) ^^^ (-1 : Int32)).toInt8.toInt32)), (.int (2 : Int32)), (.ref r214)])) rfl rfl (hb hby at_216)
  rw [own_narb] at W247
  have V247 : Arv Z h247 r214 ak225 .byte (3 : Int32) [(.int (((p1.toInt8.toInt32) ^^^ (-1 : Int32)).toInt8.toInt32)), (.int (((((p1.toUInt32 >>> ((8 : Int32) &&& 31).toUInt32).toInt32).toInt8.toInt32) ^^^ (-1 : Int32)).toInt8.toInt32)), (.int (((((p1.toUInt32 >>> ((16 : Int32) &&& 31).toUInt32).toInt32).toInt8.toInt32) ^^^ (-1 : Int32)).toInt8.toInt32))] (.int (0 : Int32)) := Arv.set Ar247 Aq247 As247 An247 Ah247 Ag247 (fits_nar_byte _) W247 2 rfl (Nat.le_of_ble_eq_true rfl)
  have f248 := f237.other W247 ne_b170_r214
  have f249 := f238.wr W247
  have f250 := f239.wr W247
  have f251 := f240.other W247 (Or.inl ne_r181_r214)
  have f252 := f241.other W247 (Or.inl ne_r181_r214)
  have f253 := f242.other W247 ne_x181_r214
  have f254 := f243.wr W247
  have f255 := f244.wr W247
  have N256 := Fr.snoc X247 N245 q_r214
  have OLD256 := OLD245.wr W247 q_r214
  have K256 := K245.wr W247 (Or.inr sz_r214)
  have Z256 := Nat.le_trans Z245 (Nat.le_of_eq W247.size.symm)
  have hk257 := Nat.le_trans hk246 (Nat.le_of_eq W247.size.symm)
  refine ogoW st247 ?_
  show OwnEndsW _ _ _ _ _ _ _ (T247.setTop (mkF m 217 #[.val (.int p0), .val (.int p1), .val (.int (3 : Int32)), .val (.int (p1.toInt8.toInt32)), .val (.int (((p1.toUInt32 >>> ((8 : Int32) &&& 31).toUInt32).toInt32).toInt8.toInt32)), .val (.int (((p1.toUInt32 >>> ((16 : Int32) &&& 31).toUInt32).toInt32).toInt8.toInt32)), .val (.int (((p1.toUInt32 >>> ((24 : Int32) &&& 31).toUInt32).toInt32).toInt8.toInt32)), .val (.ref b170), .val (.ref r181), .val (.ref r214), .unset] []))
  refine ogoW (fun t k => XS.iloadN X247.here hx rfl (hb hby at_217) rfl k) ?_
  show OwnEndsW _ _ _ _ _ _ _ (T247.setTop (mkF m 218 #[.val (.int p0), .val (.int p1), .val (.int (3 : Int32)), .val (.int (p1.toInt8.toInt32)), .val (.int (((p1.toUInt32 >>> ((8 : Int32) &&& 31).toUInt32).toInt32).toInt8.toInt32)), .val (.int (((p1.toUInt32 >>> ((16 : Int32) &&& 31).toUInt32).toInt32).toInt8.toInt32)), .val (.int (((p1.toUInt32 >>> ((24 : Int32) &&& 31).toUInt32).toInt32).toInt8.toInt32)), .val (.ref b170), .val (.ref r181), .val (.ref r214), .unset] [(.int (3 : Int32))]))
  refine ogoW (fun t k => XS.iconst X247.here hx rfl (hb hby at_218) k) ?_
  show OwnEndsW _ _ _ _ _ _ _ (T247.setTop (mkF m 219 #[.val (.int p0), .val (.int p1), .val (.int (3 : Int32)), .val (.int (p1.toInt8.toInt32)), .val (.int (((p1.toUInt32 >>> ((8 : Int32) &&& 31).toUInt32).toInt32).toInt8.toInt32)), .val (.int (((p1.toUInt32 >>> ((16 : Int32) &&& 31).toUInt32).toInt32).toInt8.toInt32)), .val (.int (((p1.toUInt32 >>> ((24 : Int32) &&& 31).toUInt32).toInt32).toInt8.toInt32)), .val (.ref b170), .val (.ref r181), .val (.ref r214), .unset] [(.int (3 : Int32)), (.int (3 : Int32))]))
  refine ogoW (fun t k => XS.icmpYes X247.here hx rfl (pc0 := 219) (pc' := 231) rfl (hb hby at_219) rfl (flt (by decide : ¬ ((3 : Int32) < (3 : Int32)))).2.2.2 (by decide) (by decide) k) ?_
  show OwnEndsW _ _ _ _ _ _ _ (T247.setTop (mkF m 231 #[.val (.int p0), .val (.int p1), .val (.int (3 : Int32)), .val (.int (p1.toInt8.toInt32)), .val (.int (((p1.toUInt32 >>> ((8 : Int32) &&& 31).toUInt32).toInt32).toInt8.toInt32)), .val (.int (((p1.toUInt32 >>> ((16 : Int32) &&& 31).toUInt32).toInt32).toInt8.toInt32)), .val (.int (((p1.toUInt32 >>> ((24 : Int32) &&& 31).toUInt32).toInt32).toInt8.toInt32)), .val (.ref b170), .val (.ref r181), .val (.ref r214), .unset] []))
  refine ogoW (fun t k => XS.aload X247.here hx rfl (hb hby at_231) rfl rfl k) ?_
  show OwnEndsW _ _ _ _ _ _ _ (T247.setTop (mkF m 233 #[.val (.int p0), .val (.int p1), .val (.int (3 : Int32)), .val (.int (p1.toInt8.toInt32)), .val (.int (((p1.toUInt32 >>> ((8 : Int32) &&& 31).toUInt32).toInt32).toInt8.toInt32)), .val (.int (((p1.toUInt32 >>> ((16 : Int32) &&& 31).toUInt32).toInt32).toInt8.toInt32)), .val (.int (((p1.toUInt32 >>> ((24 : Int32) &&& 31).toUInt32).toInt32).toInt8.toInt32)), .val (.ref b170), .val (.ref r181), .val (.ref r214), .unset] [(.ref r181)]))
  obtain ⟨cq258, kq258, q258a, q258b, q258c⟩ := isOf hZ e247 f250
  obtain ⟨v258, _, ⟨T258, L258, k258, n258⟩, -, X258, ⟨Lc258, hQ258, l258, y258, z258⟩, st258⟩ := X247.virtualBack hx (y := (⟨"com/example/once_guard/onceguard/ClaimResult", "payloadDigest", "()[B"⟩ : MethodName)) (z := (⟨"com/example/once_guard/onceguard/ClaimResult", "payloadDigest", "()[B"⟩ : MethodName)) hown (mvT hZ (hw _ (List.mem_of_getElem? (i := 51) rfl))) (mvT hZ (hw _ (List.mem_of_getElem? (i := 52) rfl))) (notFace_of_selects (args := #[]) (mvT hZ (hw _ (List.mem_of_getElem? (i := 54) rfl)))) (mvT hZ (hw _ (List.mem_of_getElem? (i := 54) rfl))) (mvT hZ (hw _ (List.mem_of_getElem? (i := 53) rfl))) (by decide) (backOf (W := 0) (rm4 l Z a0 hw [] r181 x181 (3 : Int32) [(.int (p1.toInt8.toInt32)), (.int (((p1.toUInt32 >>> ((8 : Int32) &&& 31).toUInt32).toInt32).toInt8.toInt32)), (.int (((p1.toUInt32 >>> ((16 : Int32) &&& 31).toUInt32).toInt32).toInt8.toInt32))] w_IN_PROGRESS w_CLAIMED h247 n0 Z256 OLD256 S_CLAIMED f251 f252 f253 f254 (by decide) (Fld.ne F_ordinal_IN_PROGRESS F_ordinal_CLAIMED (by simp))) hZ (hw _ (List.mem_of_getElem? (i := 55) rfl)) (hw _ (List.mem_of_getElem? (i := 4) rfl)) (by decide) (by decide)) q258a q258c (g := (mkF m 233 #[.val (.int p0), .val (.int p1), .val (.int (3 : Int32)), .val (.int (p1.toInt8.toInt32)), .val (.int (((p1.toUInt32 >>> ((8 : Int32) &&& 31).toUInt32).toInt32).toInt8.toInt32)), .val (.int (((p1.toUInt32 >>> ((16 : Int32) &&& 31).toUInt32).toInt32).toInt8.toInt32)), .val (.int (((p1.toUInt32 >>> ((24 : Int32) &&& 31).toUInt32).toInt32).toInt8.toInt32)), .val (.ref b170), .val (.ref r181), .val (.ref r214), .unset] [(.ref r181)])) rfl (by rw [hml]; rfl) (Steps.refl _) (argsL := []) (rest := []) (lenOf pd____B rfl) rfl (by show 2 * 0 + _ ≤ _; exact Nat.le_of_eq rfl) (hb hby at_233) (fun _ _ => ⟨rfl, e247, (by decide : 6 + 1 ≤ _), (by decide : 139 + 4 ≤ _)⟩)
  dsimp only [Pt.U, Pt.locs, Pt.cells, Pt.slots] at X258 l258 y258 z258 st258 hQ258
  subst l258 y258 z258
  obtain ⟨r258, rfl, Sq258, N258q, Kq258, Vq258, Eq258⟩ := hQ258
  have N258 := Fr.app N256 N258q
  have ne_b170_r258 : b170 ≠ r258 := Nat.ne_of_lt (Nat.lt_of_lt_of_le (f248).lt Sq258)
  have ne_r181_r258 : r181 ≠ r258 := Nat.ne_of_lt (Nat.lt_of_lt_of_le (f250).lt Sq258)
  have ne_x181_r258 : x181 ≠ r258 := Nat.ne_of_lt (Nat.lt_of_lt_of_le (f253).lt Sq258)
  have ne_r214_r258 : r214 ≠ r258 := Nat.ne_of_lt (Nat.lt_of_lt_of_le (V247).lt Sq258)
  have q_r258 : n0 ≤ r258 := Nat.le_trans Z256 Sq258
  have sz_r258 : h0.size ≤ r258 := Nat.le_trans K256.1 Sq258
  have f259 := f248.keep Kq258 nin0
  have f260 := f249.keep Kq258
  have f261 := f250.keep Kq258
  have f262 := f251.keep Kq258 nin0
  have f263 := f252.keep Kq258 nin0
  have f264 := f253.keep Kq258 nin0
  have f265 := f254.keep Kq258
  have f266 := V247.keep Kq258 nin0
  have f267 := f255.keep Kq258
  have OLD268 := OLD256.keep Kq258 all0
  have K268 := K256.trans Kq258 all0
  have Z268 := Nat.le_trans Z256 Kq258.1
  have hk269 := Nat.le_trans hk257 Kq258.1
  refine ogoW (fun t k => st258.trans k) ?_
  show OwnEndsW _ _ _ _ _ _ _ (T258.setTop (mkF m 236 #[.val (.int p0), .val (.int p1), .val (.int (3 : Int32)), .val (.int (p1.toInt8.toInt32)), .val (.int (((p1.toUInt32 >>> ((8 : Int32) &&& 31).toUInt32).toInt32).toInt8.toInt32)), .val (.int (((p1.toUInt32 >>> ((16 : Int32) &&& 31).toUInt32).toInt32).toInt8.toInt32)), .val (.int (((p1.toUInt32 >>> ((24 : Int32) &&& 31).toUInt32).toInt32).toInt8.toInt32)), .val (.ref b170), .val (.ref r181), .val (.ref r214), .unset] [(.ref r258)]))
  refine ogoW (fun t k => XS.astore X258.here hx rfl (hb hby at_236) rfl rfl (l' := #[.val (.int p0), .val (.int p1), .val (.int (3 : Int32)), .val (.int (p1.toInt8.toInt32)), .val (.int (((p1.toUInt32 >>> ((8 : Int32) &&& 31).toUInt32).toInt32).toInt8.toInt32)), .val (.int (((p1.toUInt32 >>> ((16 : Int32) &&& 31).toUInt32).toInt32).toInt8.toInt32)), .val (.int (((p1.toUInt32 >>> ((24 : Int32) &&& 31).toUInt32).toInt32).toInt8.toInt32)), .val (.ref b170), .val (.ref r181), .val (.ref r214), .val (.ref r258)]) rfl k) ?_
  show OwnEndsW _ _ _ _ _ _ _ (T258.setTop (mkF m 238 #[.val (.int p0), .val (.int p1), .val (.int (3 : Int32)), .val (.int (p1.toInt8.toInt32)), .val (.int (((p1.toUInt32 >>> ((8 : Int32) &&& 31).toUInt32).toInt32).toInt8.toInt32)), .val (.int (((p1.toUInt32 >>> ((16 : Int32) &&& 31).toUInt32).toInt32).toInt8.toInt32)), .val (.int (((p1.toUInt32 >>> ((24 : Int32) &&& 31).toUInt32).toInt32).toInt8.toInt32)), .val (.ref b170), .val (.ref r181), .val (.ref r214), .val (.ref r258)] []))
  refine ogoW (fun t k => XS.aload X258.here hx rfl (hb hby at_238) rfl rfl k) ?_
  show OwnEndsW _ _ _ _ _ _ _ (T258.setTop (mkF m 240 #[.val (.int p0), .val (.int p1), .val (.int (3 : Int32)), .val (.int (p1.toInt8.toInt32)), .val (.int (((p1.toUInt32 >>> ((8 : Int32) &&& 31).toUInt32).toInt32).toInt8.toInt32)), .val (.int (((p1.toUInt32 >>> ((16 : Int32) &&& 31).toUInt32).toInt32).toInt8.toInt32)), .val (.int (((p1.toUInt32 >>> ((24 : Int32) &&& 31).toUInt32).toInt32).toInt8.toInt32)), .val (.ref b170), .val (.ref r181), .val (.ref r214), .val (.ref r258)] [(.ref r258)]))
  refine ogoW (fun t k => XS.iloadN X258.here hx rfl (hb hby at_240) rfl k) ?_
  show OwnEndsW _ _ _ _ _ _ _ (T258.setTop (mkF m 241 #[.val (.int p0), .val (.int p1), .val (.int (3 : Int32)), .val (.int (p1.toInt8.toInt32)), .val (.int (((p1.toUInt32 >>> ((8 : Int32) &&& 31).toUInt32).toInt32).toInt8.toInt32)), .val (.int (((p1.toUInt32 >>> ((16 : Int32) &&& 31).toUInt32).toInt32).toInt8.toInt32)), .val (.int (((p1.toUInt32 >>> ((24 : Int32) &&& 31).toUInt32).toInt32).toInt8.toInt32)), .val (.ref b170), .val (.ref r181), .val (.ref r214), .val (.ref r258)] [(.int (3 : Int32)), (.ref r258)]))
  refine ogoW (fun t k => XS.iloadN X258.here hx rfl (hb hby at_241) rfl k) ?_
  show OwnEndsW _ _ _ _ _ _ _ (T258.setTop (mkF m 242 #[.val (.int p0), .val (.int p1), .val (.int (3 : Int32)), .val (.int (p1.toInt8.toInt32)), .val (.int (((p1.toUInt32 >>> ((8 : Int32) &&& 31).toUInt32).toInt32).toInt8.toInt32)), .val (.int (((p1.toUInt32 >>> ((16 : Int32) &&& 31).toUInt32).toInt32).toInt8.toInt32)), .val (.int (((p1.toUInt32 >>> ((24 : Int32) &&& 31).toUInt32).toInt32).toInt8.toInt32)), .val (.ref b170), .val (.ref r181), .val (.ref r214), .val (.ref r258)] [(.int (p1.toInt8.toInt32)), (.int (3 : Int32)), (.ref r258)]))
  refine ogoW (fun t k => XS.iload X258.here hx rfl (hb hby at_242) rfl k) ?_
  show OwnEndsW _ _ _ _ _ _ _ (T258.setTop (mkF m 244 #[.val (.int p0), .val (.int p1), .val (.int (3 : Int32)), .val (.int (p1.toInt8.toInt32)), .val (.int (((p1.toUInt32 >>> ((8 : Int32) &&& 31).toUInt32).toInt32).toInt8.toInt32)), .val (.int (((p1.toUInt32 >>> ((16 : Int32) &&& 31).toUInt32).toInt32).toInt8.toInt32)), .val (.int (((p1.toUInt32 >>> ((24 : Int32) &&& 31).toUInt32).toInt32).toInt8.toInt32)), .val (.ref b170), .val (.ref r181), .val (.ref r214), .val (.ref r258)] [(.int (((p1.toUInt32 >>> ((8 : Int32) &&& 31).toUInt32).toInt32).toInt8.toInt32)), (.int (p1.toInt8.toInt32)), (.int (3 : Int32)), (.ref r258)]))
  refine ogoW (fun t k => XS.iload X258.here hx rfl (hb hby at_244) rfl k) ?_
  show OwnEndsW _ _ _ _ _ _ _ (T258.setTop (mkF m 246 #[.val (.int p0), .val (.int p1), .val (.int (3 : Int32)), .val (.int (p1.toInt8.toInt32)), .val (.int (((p1.toUInt32 >>> ((8 : Int32) &&& 31).toUInt32).toInt32).toInt8.toInt32)), .val (.int (((p1.toUInt32 >>> ((16 : Int32) &&& 31).toUInt32).toInt32).toInt8.toInt32)), .val (.int (((p1.toUInt32 >>> ((24 : Int32) &&& 31).toUInt32).toInt32).toInt8.toInt32)), .val (.ref b170), .val (.ref r181), .val (.ref r214), .val (.ref r258)] [(.int (((p1.toUInt32 >>> ((16 : Int32) &&& 31).toUInt32).toInt32).toInt8.toInt32)), (.int (((p1.toUInt32 >>> ((8 : Int32) &&& 31).toUInt32).toInt32).toInt8.toInt32)), (.int (p1.toInt8.toInt32)), (.int (3 : Int32)), (.ref r258)]))
  refine ogoW (fun t k => XS.iload X258.here hx rfl (hb hby at_246) rfl k) ?_
  show OwnEndsW _ _ _ _ _ _ _ (T258.setTop (mkF m 248 #[.val (.int p0), .val (.int p1), .val (.int (3 : Int32)), .val (.int (p1.toInt8.toInt32)), .val (.int (((p1.toUInt32 >>> ((8 : Int32) &&& 31).toUInt32).toInt32).toInt8.toInt32)), .val (.int (((p1.toUInt32 >>> ((16 : Int32) &&& 31).toUInt32).toInt32).toInt8.toInt32)), .val (.int (((p1.toUInt32 >>> ((24 : Int32) &&& 31).toUInt32).toInt32).toInt8.toInt32)), .val (.ref b170), .val (.ref r181), .val (.ref r214), .val (.ref r258)] [(.int (((p1.toUInt32 >>> ((24 : Int32) &&& 31).toUInt32).toInt32).toInt8.toInt32)), (.int (((p1.toUInt32 >>> ((16 : Int32) &&& 31).toUInt32).toInt32).toInt8.toInt32)), (.int (((p1.toUInt32 >>> ((8 : Int32) &&& 31).toUInt32).toInt32).toInt8.toInt32)), (.int (p1.toInt8.toInt32)), (.int (3 : Int32)), (.ref r258)]))
  obtain ⟨v270, _, ⟨T270, L270, k270, n270⟩, -, X270, ⟨Lc270, hQ270, l270, y270, z270⟩, st270⟩ := Jvm.LawKit.callS X258 hx (y := (⟨"com/example/once_guard/onceguard/ClaimResultInProgressPinLaw", "same", "([BIBBBB)Z"⟩ : MethodName)) hown (mvT hZ (hw _ (List.mem_of_getElem? (i := 58) rfl))) (mvT hZ (hw _ (List.mem_of_getElem? (i := 59) rfl))) (mvT hZ (hw _ (List.mem_of_getElem? (i := 60) rfl))) (mvT hZ (hw _ (List.mem_of_getElem? (i := 61) rfl))) (by decide) (backOf (W := 0) (rm63 l Z a0 hw [] r258 (p1.toInt8.toInt32) (((p1.toUInt32 >>> ((8 : Int32) &&& 31).toUInt32).toInt32).toInt8.toInt32) (((p1.toUInt32 >>> ((16 : Int32) &&& 31).toUInt32).toInt32).toInt8.toInt32) (((p1.toUInt32 >>> ((24 : Int32) &&& 31).toUInt32).toInt32).toInt8.toInt32) T258.heap n0 Z268 Vq258) hZ (hw _ (List.mem_of_getElem? (i := 61) rfl)) (hw _ (List.mem_of_getElem? (i := 60) rfl)) (by decide) (by decide)) (g := (mkF m 248 #[.val (.int p0), .val (.int p1), .val (.int (3 : Int32)), .val (.int (p1.toInt8.toInt32)), .val (.int (((p1.toUInt32 >>> ((8 : Int32) &&& 31).toUInt32).toInt32).toInt8.toInt32)), .val (.int (((p1.toUInt32 >>> ((16 : Int32) &&& 31).toUInt32).toInt32).toInt8.toInt32)), .val (.int (((p1.toUInt32 >>> ((24 : Int32) &&& 31).toUInt32).toInt32).toInt8.toInt32)), .val (.ref b170), .val (.ref r181), .val (.ref r214), .val (.ref r258)] [(.int (((p1.toUInt32 >>> ((24 : Int32) &&& 31).toUInt32).toInt32).toInt8.toInt32)), (.int (((p1.toUInt32 >>> ((16 : Int32) &&& 31).toUInt32).toInt32).toInt8.toInt32)), (.int (((p1.toUInt32 >>> ((8 : Int32) &&& 31).toUInt32).toInt32).toInt8.toInt32)), (.int (p1.toInt8.toInt32)), (.int (3 : Int32)), (.ref r258)])) rfl (by rw [hml]; rfl) (argsL := [(.ref r258), (.int (3 : Int32)), (.int (p1.toInt8.toInt32)), (.int (((p1.toUInt32 >>> ((8 : Int32) &&& 31).toUInt32).toInt32).toInt8.toInt32)), (.int (((p1.toUInt32 >>> ((16 : Int32) &&& 31).toUInt32).toInt32).toInt8.toInt32)), (.int (((p1.toUInt32 >>> ((24 : Int32) &&& 31).toUInt32).toInt32).toInt8.toInt32))]) (rest := []) (lenOf pd___BIBBBB_Z rfl) rfl (by show 2 * 0 + _ ≤ _; exact Nat.le_of_eq rfl) (hb hby at_248) (fun _ _ => ⟨rfl, rfl, (by decide : 7 + 0 ≤ _), (by decide : 143 + 0 ≤ _)⟩)
  dsimp only [Pt.U, Pt.locs, Pt.cells, Pt.slots] at X270 l270 y270 z270 st270 hQ270
  subst l270 y270 z270
  obtain ⟨rfl, N270q, e270⟩ := hQ270
  have N270 := Fr.app N258 N270q
  refine ogoW (fun t k => st270 t k) ?_
  show OwnEndsW _ _ _ _ _ _ _ (T270.setTop (mkF m 251 #[.val (.int p0), .val (.int p1), .val (.int (3 : Int32)), .val (.int (p1.toInt8.toInt32)), .val (.int (((p1.toUInt32 >>> ((8 : Int32) &&& 31).toUInt32).toInt32).toInt8.toInt32)), .val (.int (((p1.toUInt32 >>> ((16 : Int32) &&& 31).toUInt32).toInt32).toInt8.toInt32)), .val (.int (((p1.toUInt32 >>> ((24 : Int32) &&& 31).toUInt32).toInt32).toInt8.toInt32)), .val (.ref b170), .val (.ref r181), .val (.ref r214), .val (.ref r258)] [(.int (1 : Int32))]))
  refine endZW X270 hS181 (by rw [e270]; exact hk269) hx hlk hret rfl (hb hby at_251) (by decide) (by decide) ?_
  show Q0 Z p0 p1 w_IN_PROGRESS w_CLAIMED h0 n0 _ T270.heap _
  rw [e270]
  exact ⟨rfl, N270⟩
set_option maxRecDepth 65536 in
set_option maxHeartbeats 40000000 in
theorem tn0_k4 {p : Program} {l : Launch} {e : Env} {s : State} {m : MethodId} {args : Array Value} {below : List Frame} {meth : Method} {c : Code} {locs : List Loc} (Z : State) (a0 : Array Value) (hw : ∀ d ∈ tables_1, d.before a0 Z = true) (p0 p1 : Int32) (w_IN_PROGRESS w_CLAIMED : Addr) (h0 : Heap) (n0 : Nat) (OLD : Old Z n0 h0) (S_IN_PROGRESS : Sta Z Z.heap "com/example/once_guard/onceguard/ClaimResult$State" "IN_PROGRESS" "Lcom/example/once_guard/onceguard/ClaimResult$State;" (.ref w_IN_PROGRESS)) (E_IN_PROGRESS : Exa Z Z.heap w_IN_PROGRESS "com/example/once_guard/onceguard/ClaimResult$State") (F_ordinal_IN_PROGRESS : Fld Z Z.heap w_IN_PROGRESS "java/lang/Enum" "ordinal" "I" (.int (1 : Int32))) (S_CLAIMED : Sta Z Z.heap "com/example/once_guard/onceguard/ClaimResult$State" "CLAIMED" "Lcom/example/once_guard/onceguard/ClaimResult$State;" (.ref w_CLAIMED)) (E_CLAIMED : Exa Z Z.heap w_CLAIMED "com/example/once_guard/onceguard/ClaimResult$State") (F_ordinal_CLAIMED : Fld Z Z.heap w_CLAIMED "java/lang/Enum" "ordinal" "I" (.int (0 : Int32))) (s₁ : State) (hx : p.tables.exec = Jvm.exec) (hZ : Z.Warmed39 (s.setVm s.vm).vm) (hby : c.code = code) (hml : c.maxLocals = 11) (hown : (s.setVm s.vm).vm.findClass "com/example/once_guard/onceguard/ClaimResultInProgressPinLaw" = some m.cls) (hnm : meth.name = "law") (hlk : meth.locks = false) (hret : meth.sig.returnType = some .boolean) (X0 : Stand p l e room_1 (s.setVm s.vm) m args below meth c s₁ locs 0 0) (e0 : s₁.heap = h0) (N0 : Fr n0 locs) (cKC271 : Keep h0 h0 []) (Z0 : n0 ≤ h0.size) (hS0 : s.Since s.vm 0) :
    OwnEndsW p.tables e below s 24 1152 (Q0 Z p0 p1 w_IN_PROGRESS w_CLAIMED h0 n0) (s₁.setTop (mkF m 6 #[.val (.int p0), .val (.int p1), .unset, .unset, .unset, .unset, .unset, .unset, .unset, .unset, .unset] [(.int (4 : Int32))])) := by
  show OwnEndsW _ _ _ _ _ _ _ (s₁.setTop (mkF m 6 #[.val (.int p0), .val (.int p1), .unset, .unset, .unset, .unset, .unset, .unset, .unset, .unset, .unset] [(.int (4 : Int32))]))
  refine ogoW (fun t k => XS.istoreN X0.here hx rfl (hb hby at_6) rfl (l' := #[.val (.int p0), .val (.int p1), .val (.int (4 : Int32)), .unset, .unset, .unset, .unset, .unset, .unset, .unset, .unset]) rfl k) ?_
  show OwnEndsW _ _ _ _ _ _ _ (s₁.setTop (mkF m 7 #[.val (.int p0), .val (.int p1), .val (.int (4 : Int32)), .unset, .unset, .unset, .unset, .unset, .unset, .unset, .unset] []))
  refine ogoW (fun t k => XS.iloadN X0.here hx rfl (hb hby at_7) rfl k) ?_
  show OwnEndsW _ _ _ _ _ _ _ (s₁.setTop (mkF m 8 #[.val (.int p0), .val (.int p1), .val (.int (4 : Int32)), .unset, .unset, .unset, .unset, .unset, .unset, .unset, .unset] [(.int p1)]))
  refine ogoW (fun t k => XS.i2b X0.here hx rfl (hb hby at_8) rfl k) ?_
  show OwnEndsW _ _ _ _ _ _ _ (s₁.setTop (mkF m 9 #[.val (.int p0), .val (.int p1), .val (.int (4 : Int32)), .unset, .unset, .unset, .unset, .unset, .unset, .unset, .unset] [(.int (p1.toInt8.toInt32))]))
  refine ogoW (fun t k => XS.istoreN X0.here hx rfl (hb hby at_9) rfl (l' := #[.val (.int p0), .val (.int p1), .val (.int (4 : Int32)), .val (.int (p1.toInt8.toInt32)), .unset, .unset, .unset, .unset, .unset, .unset, .unset]) rfl k) ?_
  show OwnEndsW _ _ _ _ _ _ _ (s₁.setTop (mkF m 10 #[.val (.int p0), .val (.int p1), .val (.int (4 : Int32)), .val (.int (p1.toInt8.toInt32)), .unset, .unset, .unset, .unset, .unset, .unset, .unset] []))
  refine ogoW (fun t k => XS.iloadN X0.here hx rfl (hb hby at_10) rfl k) ?_
  show OwnEndsW _ _ _ _ _ _ _ (s₁.setTop (mkF m 11 #[.val (.int p0), .val (.int p1), .val (.int (4 : Int32)), .val (.int (p1.toInt8.toInt32)), .unset, .unset, .unset, .unset, .unset, .unset, .unset] [(.int p1)]))
  refine ogoW (fun t k => XS.bipush X0.here hx rfl (hb hby at_11) k) ?_
  show OwnEndsW _ _ _ _ _ _ _ (s₁.setTop (mkF m 13 #[.val (.int p0), .val (.int p1), .val (.int (4 : Int32)), .val (.int (p1.toInt8.toInt32)), .unset, .unset, .unset, .unset, .unset, .unset, .unset] [(.int (8 : Int32)), (.int p1)]))
  refine ogoW (fun t k => XS.iushr X0.here hx rfl (hb hby at_13) rfl k) ?_
  show OwnEndsW _ _ _ _ _ _ _ (s₁.setTop (mkF m 14 #[.val (.int p0), .val (.int p1), .val (.int (4 : Int32)), .val (.int (p1.toInt8.toInt32)), .unset, .unset, .unset, .unset, .unset, .unset, .unset] [(.int ((p1.toUInt32 >>> ((8 : Int32) &&& 31).toUInt32).toInt32))]))
  refine ogoW (fun t k => XS.i2b X0.here hx rfl (hb hby at_14) rfl k) ?_
  show OwnEndsW _ _ _ _ _ _ _ (s₁.setTop (mkF m 15 #[.val (.int p0), .val (.int p1), .val (.int (4 : Int32)), .val (.int (p1.toInt8.toInt32)), .unset, .unset, .unset, .unset, .unset, .unset, .unset] [(.int (((p1.toUInt32 >>> ((8 : Int32) &&& 31).toUInt32).toInt32).toInt8.toInt32))]))
  refine ogoW (fun t k => XS.istore X0.here hx rfl (hb hby at_15) rfl (l' := #[.val (.int p0), .val (.int p1), .val (.int (4 : Int32)), .val (.int (p1.toInt8.toInt32)), .val (.int (((p1.toUInt32 >>> ((8 : Int32) &&& 31).toUInt32).toInt32).toInt8.toInt32)), .unset, .unset, .unset, .unset, .unset, .unset]) rfl k) ?_
  show OwnEndsW _ _ _ _ _ _ _ (s₁.setTop (mkF m 17 #[.val (.int p0), .val (.int p1), .val (.int (4 : Int32)), .val (.int (p1.toInt8.toInt32)), .val (.int (((p1.toUInt32 >>> ((8 : Int32) &&& 31).toUInt32).toInt32).toInt8.toInt32)), .unset, .unset, .unset, .unset, .unset, .unset] []))
  refine ogoW (fun t k => XS.iloadN X0.here hx rfl (hb hby at_17) rfl k) ?_
  show OwnEndsW _ _ _ _ _ _ _ (s₁.setTop (mkF m 18 #[.val (.int p0), .val (.int p1), .val (.int (4 : Int32)), .val (.int (p1.toInt8.toInt32)), .val (.int (((p1.toUInt32 >>> ((8 : Int32) &&& 31).toUInt32).toInt32).toInt8.toInt32)), .unset, .unset, .unset, .unset, .unset, .unset] [(.int p1)]))
  refine ogoW (fun t k => XS.bipush X0.here hx rfl (hb hby at_18) k) ?_
  show OwnEndsW _ _ _ _ _ _ _ (s₁.setTop (mkF m 20 #[.val (.int p0), .val (.int p1), .val (.int (4 : Int32)), .val (.int (p1.toInt8.toInt32)), .val (.int (((p1.toUInt32 >>> ((8 : Int32) &&& 31).toUInt32).toInt32).toInt8.toInt32)), .unset, .unset, .unset, .unset, .unset, .unset] [(.int (16 : Int32)), (.int p1)]))
  refine ogoW (fun t k => XS.iushr X0.here hx rfl (hb hby at_20) rfl k) ?_
  show OwnEndsW _ _ _ _ _ _ _ (s₁.setTop (mkF m 21 #[.val (.int p0), .val (.int p1), .val (.int (4 : Int32)), .val (.int (p1.toInt8.toInt32)), .val (.int (((p1.toUInt32 >>> ((8 : Int32) &&& 31).toUInt32).toInt32).toInt8.toInt32)), .unset, .unset, .unset, .unset, .unset, .unset] [(.int ((p1.toUInt32 >>> ((16 : Int32) &&& 31).toUInt32).toInt32))]))
  refine ogoW (fun t k => XS.i2b X0.here hx rfl (hb hby at_21) rfl k) ?_
  show OwnEndsW _ _ _ _ _ _ _ (s₁.setTop (mkF m 22 #[.val (.int p0), .val (.int p1), .val (.int (4 : Int32)), .val (.int (p1.toInt8.toInt32)), .val (.int (((p1.toUInt32 >>> ((8 : Int32) &&& 31).toUInt32).toInt32).toInt8.toInt32)), .unset, .unset, .unset, .unset, .unset, .unset] [(.int (((p1.toUInt32 >>> ((16 : Int32) &&& 31).toUInt32).toInt32).toInt8.toInt32))]))
  refine ogoW (fun t k => XS.istore X0.here hx rfl (hb hby at_22) rfl (l' := #[.val (.int p0), .val (.int p1), .val (.int (4 : Int32)), .val (.int (p1.toInt8.toInt32)), .val (.int (((p1.toUInt32 >>> ((8 : Int32) &&& 31).toUInt32).toInt32).toInt8.toInt32)), .val (.int (((p1.toUInt32 >>> ((16 : Int32) &&& 31).toUInt32).toInt32).toInt8.toInt32)), .unset, .unset, .unset, .unset, .unset]) rfl k) ?_
  show OwnEndsW _ _ _ _ _ _ _ (s₁.setTop (mkF m 24 #[.val (.int p0), .val (.int p1), .val (.int (4 : Int32)), .val (.int (p1.toInt8.toInt32)), .val (.int (((p1.toUInt32 >>> ((8 : Int32) &&& 31).toUInt32).toInt32).toInt8.toInt32)), .val (.int (((p1.toUInt32 >>> ((16 : Int32) &&& 31).toUInt32).toInt32).toInt8.toInt32)), .unset, .unset, .unset, .unset, .unset] []))
  refine ogoW (fun t k => XS.iloadN X0.here hx rfl (hb hby at_24) rfl k) ?_
  show OwnEndsW _ _ _ _ _ _ _ (s₁.setTop (mkF m 25 #[.val (.int p0), .val (.int p1), .val (.int (4 : Int32)), .val (.int (p1.toInt8.toInt32)), .val (.int (((p1.toUInt32 >>> ((8 : Int32) &&& 31).toUInt32).toInt32).toInt8.toInt32)), .val (.int (((p1.toUInt32 >>> ((16 : Int32) &&& 31).toUInt32).toInt32).toInt8.toInt32)), .unset, .unset, .unset, .unset, .unset] [(.int p1)]))
  refine ogoW (fun t k => XS.bipush X0.here hx rfl (hb hby at_25) k) ?_
  show OwnEndsW _ _ _ _ _ _ _ (s₁.setTop (mkF m 27 #[.val (.int p0), .val (.int p1), .val (.int (4 : Int32)), .val (.int (p1.toInt8.toInt32)), .val (.int (((p1.toUInt32 >>> ((8 : Int32) &&& 31).toUInt32).toInt32).toInt8.toInt32)), .val (.int (((p1.toUInt32 >>> ((16 : Int32) &&& 31).toUInt32).toInt32).toInt8.toInt32)), .unset, .unset, .unset, .unset, .unset] [(.int (24 : Int32)), (.int p1)]))
  refine ogoW (fun t k => XS.iushr X0.here hx rfl (hb hby at_27) rfl k) ?_
  show OwnEndsW _ _ _ _ _ _ _ (s₁.setTop (mkF m 28 #[.val (.int p0), .val (.int p1), .val (.int (4 : Int32)), .val (.int (p1.toInt8.toInt32)), .val (.int (((p1.toUInt32 >>> ((8 : Int32) &&& 31).toUInt32).toInt32).toInt8.toInt32)), .val (.int (((p1.toUInt32 >>> ((16 : Int32) &&& 31).toUInt32).toInt32).toInt8.toInt32)), .unset, .unset, .unset, .unset, .unset] [(.int ((p1.toUInt32 >>> ((24 : Int32) &&& 31).toUInt32).toInt32))]))
  refine ogoW (fun t k => XS.i2b X0.here hx rfl (hb hby at_28) rfl k) ?_
  show OwnEndsW _ _ _ _ _ _ _ (s₁.setTop (mkF m 29 #[.val (.int p0), .val (.int p1), .val (.int (4 : Int32)), .val (.int (p1.toInt8.toInt32)), .val (.int (((p1.toUInt32 >>> ((8 : Int32) &&& 31).toUInt32).toInt32).toInt8.toInt32)), .val (.int (((p1.toUInt32 >>> ((16 : Int32) &&& 31).toUInt32).toInt32).toInt8.toInt32)), .unset, .unset, .unset, .unset, .unset] [(.int (((p1.toUInt32 >>> ((24 : Int32) &&& 31).toUInt32).toInt32).toInt8.toInt32))]))
  refine ogoW (fun t k => XS.istore X0.here hx rfl (hb hby at_29) rfl (l' := #[.val (.int p0), .val (.int p1), .val (.int (4 : Int32)), .val (.int (p1.toInt8.toInt32)), .val (.int (((p1.toUInt32 >>> ((8 : Int32) &&& 31).toUInt32).toInt32).toInt8.toInt32)), .val (.int (((p1.toUInt32 >>> ((16 : Int32) &&& 31).toUInt32).toInt32).toInt8.toInt32)), .val (.int (((p1.toUInt32 >>> ((24 : Int32) &&& 31).toUInt32).toInt32).toInt8.toInt32)), .unset, .unset, .unset, .unset]) rfl k) ?_
  show OwnEndsW _ _ _ _ _ _ _ (s₁.setTop (mkF m 31 #[.val (.int p0), .val (.int p1), .val (.int (4 : Int32)), .val (.int (p1.toInt8.toInt32)), .val (.int (((p1.toUInt32 >>> ((8 : Int32) &&& 31).toUInt32).toInt32).toInt8.toInt32)), .val (.int (((p1.toUInt32 >>> ((16 : Int32) &&& 31).toUInt32).toInt32).toInt8.toInt32)), .val (.int (((p1.toUInt32 >>> ((24 : Int32) &&& 31).toUInt32).toInt32).toInt8.toInt32)), .unset, .unset, .unset, .unset] []))
  refine ogoW (fun t k => XS.iloadN X0.here hx rfl (hb hby at_31) rfl k) ?_
  show OwnEndsW _ _ _ _ _ _ _ (s₁.setTop (mkF m 32 #[.val (.int p0), .val (.int p1), .val (.int (4 : Int32)), .val (.int (p1.toInt8.toInt32)), .val (.int (((p1.toUInt32 >>> ((8 : Int32) &&& 31).toUInt32).toInt32).toInt8.toInt32)), .val (.int (((p1.toUInt32 >>> ((16 : Int32) &&& 31).toUInt32).toInt32).toInt8.toInt32)), .val (.int (((p1.toUInt32 >>> ((24 : Int32) &&& 31).toUInt32).toInt32).toInt8.toInt32)), .unset, .unset, .unset, .unset] [(.int (4 : Int32))]))
  obtain ⟨T272, h272, k272, X272, e272, E272, A272, B272, st272⟩ := newPE X0 hx hZ (hw _ (List.mem_of_getElem? (i := 1) rfl)) e0 (g := (mkF m 32 #[.val (.int p0), .val (.int p1), .val (.int (4 : Int32)), .val (.int (p1.toInt8.toInt32)), .val (.int (((p1.toUInt32 >>> ((8 : Int32) &&& 31).toUInt32).toInt32).toInt8.toInt32)), .val (.int (((p1.toUInt32 >>> ((16 : Int32) &&& 31).toUInt32).toInt32).toInt8.toInt32)), .val (.int (((p1.toUInt32 >>> ((24 : Int32) &&& 31).toUInt32).toInt32).toInt8.toInt32)), .unset, .unset, .unset, .unset] [(.int (4 : Int32))])) rfl (hb hby at_32) rfl (by decide) (cap := 4) (by decide) (by decide) (by decide) (by decide) (ad := "[B") (by decide)
  obtain ⟨b272, g272⟩ : ∃ z, z = h0.size := ⟨_, rfl⟩
  rw [← g272] at A272 B272 st272
  have q_b272 : n0 ≤ b272 := Nat.le_trans Z0 (Nat.le_of_eq g272.symm)
  have sz_b272 : h0.size ≤ b272 := Nat.le_trans cKC271.1 (Nat.le_of_eq g272.symm)
  have OLD273 := OLD.ext E272
  have K273 := cKC271.ext E272
  have Z273 := Nat.le_trans Z0 E272.1
  have V272 : Arv Z h272 b272 k272 .byte (4 : Int32) [(.int (0 : Int32)), (.int (0 : Int32)), (.int (0 : Int32)), (.int (0 : Int32))] (.int (0 : Int32)) := (Arv.new A272 (by decide)).pad (pad_rep [] (.int (0 : Int32)) 4)
  refine ogoW st272 ?_
  show OwnEndsW _ _ _ _ _ _ _ (T272.setTop (mkF m 34 #[.val (.int p0), .val (.int p1), .val (.int (4 : Int32)), .val (.int (p1.toInt8.toInt32)), .val (.int (((p1.toUInt32 >>> ((8 : Int32) &&& 31).toUInt32).toInt32).toInt8.toInt32)), .val (.int (((p1.toUInt32 >>> ((16 : Int32) &&& 31).toUInt32).toInt32).toInt8.toInt32)), .val (.int (((p1.toUInt32 >>> ((24 : Int32) &&& 31).toUInt32).toInt32).toInt8.toInt32)), .unset, .unset, .unset, .unset] [(.ref b272)]))
  refine ogoW (fun t k => XS.astore X272.here hx rfl (hb hby at_34) rfl rfl (l' := #[.val (.int p0), .val (.int p1), .val (.int (4 : Int32)), .val (.int (p1.toInt8.toInt32)), .val (.int (((p1.toUInt32 >>> ((8 : Int32) &&& 31).toUInt32).toInt32).toInt8.toInt32)), .val (.int (((p1.toUInt32 >>> ((16 : Int32) &&& 31).toUInt32).toInt32).toInt8.toInt32)), .val (.int (((p1.toUInt32 >>> ((24 : Int32) &&& 31).toUInt32).toInt32).toInt8.toInt32)), .val (.ref b272), .unset, .unset, .unset]) rfl k) ?_
  show OwnEndsW _ _ _ _ _ _ _ (T272.setTop (mkF m 36 #[.val (.int p0), .val (.int p1), .val (.int (4 : Int32)), .val (.int (p1.toInt8.toInt32)), .val (.int (((p1.toUInt32 >>> ((8 : Int32) &&& 31).toUInt32).toInt32).toInt8.toInt32)), .val (.int (((p1.toUInt32 >>> ((16 : Int32) &&& 31).toUInt32).toInt32).toInt8.toInt32)), .val (.int (((p1.toUInt32 >>> ((24 : Int32) &&& 31).toUInt32).toInt32).toInt8.toInt32)), .val (.ref b272), .unset, .unset, .unset] []))
  refine ogoW (fun t k => XS.iloadN X272.here hx rfl (hb hby at_36) rfl k) ?_
  show OwnEndsW _ _ _ _ _ _ _ (T272.setTop (mkF m 37 #[.val (.int p0), .val (.int p1), .val (.int (4 : Int32)), .val (.int (p1.toInt8.toInt32)), .val (.int (((p1.toUInt32 >>> ((8 : Int32) &&& 31).toUInt32).toInt32).toInt8.toInt32)), .val (.int (((p1.toUInt32 >>> ((16 : Int32) &&& 31).toUInt32).toInt32).toInt8.toInt32)), .val (.int (((p1.toUInt32 >>> ((24 : Int32) &&& 31).toUInt32).toInt32).toInt8.toInt32)), .val (.ref b272), .unset, .unset, .unset] [(.int (4 : Int32))]))
  refine ogoW (fun t k => XS.ifNo X272.here hx rfl (hb hby at_37) rfl ((if0 _ _).trans (tlt (by decide : (0 : Int32) < (4 : Int32))).2.2.2) k) ?_
  show OwnEndsW _ _ _ _ _ _ _ (T272.setTop (mkF m 40 #[.val (.int p0), .val (.int p1), .val (.int (4 : Int32)), .val (.int (p1.toInt8.toInt32)), .val (.int (((p1.toUInt32 >>> ((8 : Int32) &&& 31).toUInt32).toInt32).toInt8.toInt32)), .val (.int (((p1.toUInt32 >>> ((16 : Int32) &&& 31).toUInt32).toInt32).toInt8.toInt32)), .val (.int (((p1.toUInt32 >>> ((24 : Int32) &&& 31).toUInt32).toInt32).toInt8.toInt32)), .val (.ref b272), .unset, .unset, .unset] []))
  refine ogoW (fun t k => XS.aload X272.here hx rfl (hb hby at_40) rfl rfl k) ?_
  show OwnEndsW _ _ _ _ _ _ _ (T272.setTop (mkF m 42 #[.val (.int p0), .val (.int p1), .val (.int (4 : Int32)), .val (.int (p1.toInt8.toInt32)), .val (.int (((p1.toUInt32 >>> ((8 : Int32) &&& 31).toUInt32).toInt32).toInt8.toInt32)), .val (.int (((p1.toUInt32 >>> ((16 : Int32) &&& 31).toUInt32).toInt32).toInt8.toInt32)), .val (.int (((p1.toUInt32 >>> ((24 : Int32) &&& 31).toUInt32).toInt32).toInt8.toInt32)), .val (.ref b272), .unset, .unset, .unset] [(.ref b272)]))
  refine ogoW (fun t k => XS.iconst X272.here hx rfl (hb hby at_42) k) ?_
  show OwnEndsW _ _ _ _ _ _ _ (T272.setTop (mkF m 43 #[.val (.int p0), .val (.int p1), .val (.int (4 : Int32)), .val (.int (p1.toInt8.toInt32)), .val (.int (((p1.toUInt32 >>> ((8 : Int32) &&& 31).toUInt32).toInt32).toInt8.toInt32)), .val (.int (((p1.toUInt32 >>> ((16 : Int32) &&& 31).toUInt32).toInt32).toInt8.toInt32)), .val (.int (((p1.toUInt32 >>> ((24 : Int32) &&& 31).toUInt32).toInt32).toInt8.toInt32)), .val (.ref b272), .unset, .unset, .unset] [(.int (0 : Int32)), (.ref b272)]))
  refine ogoW (fun t k => XS.iloadN X272.here hx rfl (hb hby at_43) rfl k) ?_
  show OwnEndsW _ _ _ _ _ _ _ (T272.setTop (mkF m 44 #[.val (.int p0), .val (.int p1), .val (.int (4 : Int32)), .val (.int (p1.toInt8.toInt32)), .val (.int (((p1.toUInt32 >>> ((8 : Int32) &&& 31).toUInt32).toInt32).toInt8.toInt32)), .val (.int (((p1.toUInt32 >>> ((16 : Int32) &&& 31).toUInt32).toInt32).toInt8.toInt32)), .val (.int (((p1.toUInt32 >>> ((24 : Int32) &&& 31).toUInt32).toInt32).toInt8.toInt32)), .val (.ref b272), .unset, .unset, .unset] [(.int (p1.toInt8.toInt32)), (.int (0 : Int32)), (.ref b272)]))
  obtain ⟨cl274, Ar274, Aq274, As274, An274, Ah274, Ag274⟩ := id V272
  obtain ⟨T274, h274, X274, e274, W274, st274⟩ := stB X272 hx hZ e272 Ar274 (j := (0 : Int32)) (inb_of As274 ⟨by decide, by decide⟩) (g := (mkF m 44 #[.val (.int p0), .val (.int p1), .val (.int (4 : Int32)), .val (.int (p1.toInt8.toInt32)), .val (.int (((p1.toUInt32 >>> ((8 : Int32) &&& 31).toUInt32).toInt32).toInt8.toInt32)), .val (.int (((p1.toUInt32 >>> ((16 : Int32) &&& 31).toUInt32).toInt32).toInt8.toInt32)), .val (.int (((p1.toUInt32 >>> ((24 : Int32) &&& 31).toUInt32).toInt32).toInt8.toInt32)), .val (.ref b272), .unset, .unset, .unset] [(.int (p1.toInt8.toInt32)), (.int (0 : Int32)), (.ref b272)])) rfl rfl (hb hby at_44)
  rw [own_narb] at W274
  have V274 : Arv Z h274 b272 k272 .byte (4 : Int32) [(.int (p1.toInt8.toInt32)), (.int (0 : Int32)), (.int (0 : Int32)), (.int (0 : Int32))] (.int (0 : Int32)) := Arv.set Ar274 Aq274 As274 An274 Ah274 Ag274 (fits_nar_byte _) W274 0 rfl (Nat.le_of_ble_eq_true rfl)
  have f275 := B272.wr W274
  have N276 := Fr.snoc X274 N0 q_b272
  have OLD276 := OLD273.wr W274 q_b272
  have K276 := K273.wr W274 (Or.inr sz_b272)
  have Z276 := Nat.le_trans Z273 (Nat.le_of_eq W274.size.symm)
  refine ogoW st274 ?_
  show OwnEndsW _ _ _ _ _ _ _ (T274.setTop (mkF m 45 #[.val (.int p0), .val (.int p1), .val (.int (4 : Int32)), .val (.int (p1.toInt8.toInt32)), .val (.int (((p1.toUInt32 >>> ((8 : Int32) &&& 31).toUInt32).toInt32).toInt8.toInt32)), .val (.int (((p1.toUInt32 >>> ((16 : Int32) &&& 31).toUInt32).toInt32).toInt8.toInt32)), .val (.int (((p1.toUInt32 >>> ((24 : Int32) &&& 31).toUInt32).toInt32).toInt8.toInt32)), .val (.ref b272), .unset, .unset, .unset] []))
  refine ogoW (fun t k => XS.iloadN X274.here hx rfl (hb hby at_45) rfl k) ?_
  show OwnEndsW _ _ _ _ _ _ _ (T274.setTop (mkF m 46 #[.val (.int p0), .val (.int p1), .val (.int (4 : Int32)), .val (.int (p1.toInt8.toInt32)), .val (.int (((p1.toUInt32 >>> ((8 : Int32) &&& 31).toUInt32).toInt32).toInt8.toInt32)), .val (.int (((p1.toUInt32 >>> ((16 : Int32) &&& 31).toUInt32).toInt32).toInt8.toInt32)), .val (.int (((p1.toUInt32 >>> ((24 : Int32) &&& 31).toUInt32).toInt32).toInt8.toInt32)), .val (.ref b272), .unset, .unset, .unset] [(.int (4 : Int32))]))
  refine ogoW (fun t k => XS.iconst X274.here hx rfl (hb hby at_46) k) ?_
  show OwnEndsW _ _ _ _ _ _ _ (T274.setTop (mkF m 47 #[.val (.int p0), .val (.int p1), .val (.int (4 : Int32)), .val (.int (p1.toInt8.toInt32)), .val (.int (((p1.toUInt32 >>> ((8 : Int32) &&& 31).toUInt32).toInt32).toInt8.toInt32)), .val (.int (((p1.toUInt32 >>> ((16 : Int32) &&& 31).toUInt32).toInt32).toInt8.toInt32)), .val (.int (((p1.toUInt32 >>> ((24 : Int32) &&& 31).toUInt32).toInt32).toInt8.toInt32)), .val (.ref b272), .unset, .unset, .unset] [(.int (1 : Int32)), (.int (4 : Int32))]))
  refine ogoW (fun t k => XS.icmpNo X274.here hx rfl (hb hby at_47) rfl (tlt (by decide : (1 : Int32) < (4 : Int32))).2.2.2 k) ?_
  show OwnEndsW _ _ _ _ _ _ _ (T274.setTop (mkF m 50 #[.val (.int p0), .val (.int p1), .val (.int (4 : Int32)), .val (.int (p1.toInt8.toInt32)), .val (.int (((p1.toUInt32 >>> ((8 : Int32) &&& 31).toUInt32).toInt32).toInt8.toInt32)), .val (.int (((p1.toUInt32 >>> ((16 : Int32) &&& 31).toUInt32).toInt32).toInt8.toInt32)), .val (.int (((p1.toUInt32 >>> ((24 : Int32) &&& 31).toUInt32).toInt32).toInt8.toInt32)), .val (.ref b272), .unset, .unset, .unset] []))
  refine ogoW (fun t k => XS.aload X274.here hx rfl (hb hby at_50) rfl rfl k) ?_
  show OwnEndsW _ _ _ _ _ _ _ (T274.setTop (mkF m 52 #[.val (.int p0), .val (.int p1), .val (.int (4 : Int32)), .val (.int (p1.toInt8.toInt32)), .val (.int (((p1.toUInt32 >>> ((8 : Int32) &&& 31).toUInt32).toInt32).toInt8.toInt32)), .val (.int (((p1.toUInt32 >>> ((16 : Int32) &&& 31).toUInt32).toInt32).toInt8.toInt32)), .val (.int (((p1.toUInt32 >>> ((24 : Int32) &&& 31).toUInt32).toInt32).toInt8.toInt32)), .val (.ref b272), .unset, .unset, .unset] [(.ref b272)]))
  refine ogoW (fun t k => XS.iconst X274.here hx rfl (hb hby at_52) k) ?_
  show OwnEndsW _ _ _ _ _ _ _ (T274.setTop (mkF m 53 #[.val (.int p0), .val (.int p1), .val (.int (4 : Int32)), .val (.int (p1.toInt8.toInt32)), .val (.int (((p1.toUInt32 >>> ((8 : Int32) &&& 31).toUInt32).toInt32).toInt8.toInt32)), .val (.int (((p1.toUInt32 >>> ((16 : Int32) &&& 31).toUInt32).toInt32).toInt8.toInt32)), .val (.int (((p1.toUInt32 >>> ((24 : Int32) &&& 31).toUInt32).toInt32).toInt8.toInt32)), .val (.ref b272), .unset, .unset, .unset] [(.int (1 : Int32)), (.ref b272)]))
  refine ogoW (fun t k => XS.iload X274.here hx rfl (hb hby at_53) rfl k) ?_
  show OwnEndsW _ _ _ _ _ _ _ (T274.setTop (mkF m 55 #[.val (.int p0), .val (.int p1), .val (.int (4 : Int32)), .val (.int (p1.toInt8.toInt32)), .val (.int (((p1.toUInt32 >>> ((8 : Int32) &&& 31).toUInt32).toInt32).toInt8.toInt32)), .val (.int (((p1.toUInt32 >>> ((16 : Int32) &&& 31).toUInt32).toInt32).toInt8.toInt32)), .val (.int (((p1.toUInt32 >>> ((24 : Int32) &&& 31).toUInt32).toInt32).toInt8.toInt32)), .val (.ref b272), .unset, .unset, .unset] [(.int (((p1.toUInt32 >>> ((8 : Int32) &&& 31).toUInt32).toInt32).toInt8.toInt32)), (.int (1 : Int32)), (.ref b272)]))
  obtain ⟨cl277, Ar277, Aq277, As277, An277, Ah277, Ag277⟩ := id V274
  obtain ⟨T277, h277, X277, e277, W277, st277⟩ := stB X274 hx hZ e274 Ar277 (j := (1 : Int32)) (inb_of As277 ⟨by decide, by decide⟩) (g := (mkF m 55 #[.val (.int p0), .val (.int p1), .val (.int (4 : Int32)), .val (.int (p1.toInt8.toInt32)), .val (.int (((p1.toUInt32 >>> ((8 : Int32) &&& 31).toUInt32).toInt32).toInt8.toInt32)), .val (.int (((p1.toUInt32 >>> ((16 : Int32) &&& 31).toUInt32).toInt32).toInt8.toInt32)), .val (.int (((p1.toUInt32 >>> ((24 : Int32) &&& 31).toUInt32).toInt32).toInt8.toInt32)), .val (.ref b272), .unset, .unset, .unset] [(.int (((p1.toUInt32 >>> ((8 : Int32) &&& 31).toUInt32).toInt32).toInt8.toInt32)), (.int (1 : Int32)), (.ref b272)])) rfl rfl (hb hby at_55)
  rw [own_narb] at W277
  have V277 : Arv Z h277 b272 k272 .byte (4 : Int32) [(.int (p1.toInt8.toInt32)), (.int (((p1.toUInt32 >>> ((8 : Int32) &&& 31).toUInt32).toInt32).toInt8.toInt32)), (.int (0 : Int32)), (.int (0 : Int32))] (.int (0 : Int32)) := Arv.set Ar277 Aq277 As277 An277 Ah277 Ag277 (fits_nar_byte _) W277 1 rfl (Nat.le_of_ble_eq_true rfl)
  have f278 := f275.wr W277
  have N279 := Fr.snoc X277 N276 q_b272
  have OLD279 := OLD276.wr W277 q_b272
  have K279 := K276.wr W277 (Or.inr sz_b272)
  have Z279 := Nat.le_trans Z276 (Nat.le_of_eq W277.size.symm)
  refine ogoW st277 ?_
  show OwnEndsW _ _ _ _ _ _ _ (T277.setTop (mkF m 56 #[.val (.int p0), .val (.int p1), .val (.int (4 : Int32)), .val (.int (p1.toInt8.toInt32)), .val (.int (((p1.toUInt32 >>> ((8 : Int32) &&& 31).toUInt32).toInt32).toInt8.toInt32)), .val (.int (((p1.toUInt32 >>> ((16 : Int32) &&& 31).toUInt32).toInt32).toInt8.toInt32)), .val (.int (((p1.toUInt32 >>> ((24 : Int32) &&& 31).toUInt32).toInt32).toInt8.toInt32)), .val (.ref b272), .unset, .unset, .unset] []))
  refine ogoW (fun t k => XS.iloadN X277.here hx rfl (hb hby at_56) rfl k) ?_
  show OwnEndsW _ _ _ _ _ _ _ (T277.setTop (mkF m 57 #[.val (.int p0), .val (.int p1), .val (.int (4 : Int32)), .val (.int (p1.toInt8.toInt32)), .val (.int (((p1.toUInt32 >>> ((8 : Int32) &&& 31).toUInt32).toInt32).toInt8.toInt32)), .val (.int (((p1.toUInt32 >>> ((16 : Int32) &&& 31).toUInt32).toInt32).toInt8.toInt32)), .val (.int (((p1.toUInt32 >>> ((24 : Int32) &&& 31).toUInt32).toInt32).toInt8.toInt32)), .val (.ref b272), .unset, .unset, .unset] [(.int (4 : Int32))]))
  refine ogoW (fun t k => XS.iconst X277.here hx rfl (hb hby at_57) k) ?_
  show OwnEndsW _ _ _ _ _ _ _ (T277.setTop (mkF m 58 #[.val (.int p0), .val (.int p1), .val (.int (4 : Int32)), .val (.int (p1.toInt8.toInt32)), .val (.int (((p1.toUInt32 >>> ((8 : Int32) &&& 31).toUInt32).toInt32).toInt8.toInt32)), .val (.int (((p1.toUInt32 >>> ((16 : Int32) &&& 31).toUInt32).toInt32).toInt8.toInt32)), .val (.int (((p1.toUInt32 >>> ((24 : Int32) &&& 31).toUInt32).toInt32).toInt8.toInt32)), .val (.ref b272), .unset, .unset, .unset] [(.int (2 : Int32)), (.int (4 : Int32))]))
  refine ogoW (fun t k => XS.icmpNo X277.here hx rfl (hb hby at_58) rfl (tlt (by decide : (2 : Int32) < (4 : Int32))).2.2.2 k) ?_
  show OwnEndsW _ _ _ _ _ _ _ (T277.setTop (mkF m 61 #[.val (.int p0), .val (.int p1), .val (.int (4 : Int32)), .val (.int (p1.toInt8.toInt32)), .val (.int (((p1.toUInt32 >>> ((8 : Int32) &&& 31).toUInt32).toInt32).toInt8.toInt32)), .val (.int (((p1.toUInt32 >>> ((16 : Int32) &&& 31).toUInt32).toInt32).toInt8.toInt32)), .val (.int (((p1.toUInt32 >>> ((24 : Int32) &&& 31).toUInt32).toInt32).toInt8.toInt32)), .val (.ref b272), .unset, .unset, .unset] []))
  refine ogoW (fun t k => XS.aload X277.here hx rfl (hb hby at_61) rfl rfl k) ?_
  show OwnEndsW _ _ _ _ _ _ _ (T277.setTop (mkF m 63 #[.val (.int p0), .val (.int p1), .val (.int (4 : Int32)), .val (.int (p1.toInt8.toInt32)), .val (.int (((p1.toUInt32 >>> ((8 : Int32) &&& 31).toUInt32).toInt32).toInt8.toInt32)), .val (.int (((p1.toUInt32 >>> ((16 : Int32) &&& 31).toUInt32).toInt32).toInt8.toInt32)), .val (.int (((p1.toUInt32 >>> ((24 : Int32) &&& 31).toUInt32).toInt32).toInt8.toInt32)), .val (.ref b272), .unset, .unset, .unset] [(.ref b272)]))
  refine ogoW (fun t k => XS.iconst X277.here hx rfl (hb hby at_63) k) ?_
  show OwnEndsW _ _ _ _ _ _ _ (T277.setTop (mkF m 64 #[.val (.int p0), .val (.int p1), .val (.int (4 : Int32)), .val (.int (p1.toInt8.toInt32)), .val (.int (((p1.toUInt32 >>> ((8 : Int32) &&& 31).toUInt32).toInt32).toInt8.toInt32)), .val (.int (((p1.toUInt32 >>> ((16 : Int32) &&& 31).toUInt32).toInt32).toInt8.toInt32)), .val (.int (((p1.toUInt32 >>> ((24 : Int32) &&& 31).toUInt32).toInt32).toInt8.toInt32)), .val (.ref b272), .unset, .unset, .unset] [(.int (2 : Int32)), (.ref b272)]))
  refine ogoW (fun t k => XS.iload X277.here hx rfl (hb hby at_64) rfl k) ?_
  show OwnEndsW _ _ _ _ _ _ _ (T277.setTop (mkF m 66 #[.val (.int p0), .val (.int p1), .val (.int (4 : Int32)), .val (.int (p1.toInt8.toInt32)), .val (.int (((p1.toUInt32 >>> ((8 : Int32) &&& 31).toUInt32).toInt32).toInt8.toInt32)), .val (.int (((p1.toUInt32 >>> ((16 : Int32) &&& 31).toUInt32).toInt32).toInt8.toInt32)), .val (.int (((p1.toUInt32 >>> ((24 : Int32) &&& 31).toUInt32).toInt32).toInt8.toInt32)), .val (.ref b272), .unset, .unset, .unset] [(.int (((p1.toUInt32 >>> ((16 : Int32) &&& 31).toUInt32).toInt32).toInt8.toInt32)), (.int (2 : Int32)), (.ref b272)]))
  obtain ⟨cl280, Ar280, Aq280, As280, An280, Ah280, Ag280⟩ := id V277
  obtain ⟨T280, h280, X280, e280, W280, st280⟩ := stB X277 hx hZ e277 Ar280 (j := (2 : Int32)) (inb_of As280 ⟨by decide, by decide⟩) (g := (mkF m 66 #[.val (.int p0), .val (.int p1), .val (.int (4 : Int32)), .val (.int (p1.toInt8.toInt32)), .val (.int (((p1.toUInt32 >>> ((8 : Int32) &&& 31).toUInt32).toInt32).toInt8.toInt32)), .val (.int (((p1.toUInt32 >>> ((16 : Int32) &&& 31).toUInt32).toInt32).toInt8.toInt32)), .val (.int (((p1.toUInt32 >>> ((24 : Int32) &&& 31).toUInt32).toInt32).toInt8.toInt32)), .val (.ref b272), .unset, .unset, .unset] [(.int (((p1.toUInt32 >>> ((16 : Int32) &&& 31).toUInt32).toInt32).toInt8.toInt32)), (.int (2 : Int32)), (.ref b272)])) rfl rfl (hb hby at_66)
  rw [own_narb] at W280
  have V280 : Arv Z h280 b272 k272 .byte (4 : Int32) [(.int (p1.toInt8.toInt32)), (.int (((p1.toUInt32 >>> ((8 : Int32) &&& 31).toUInt32).toInt32).toInt8.toInt32)), (.int (((p1.toUInt32 >>> ((16 : Int32) &&& 31).toUInt32).toInt32).toInt8.toInt32)), (.int (0 : Int32))] (.int (0 : Int32)) := Arv.set Ar280 Aq280 As280 An280 Ah280 Ag280 (fits_nar_byte _) W280 2 rfl (Nat.le_of_ble_eq_true rfl)
  have f281 := f278.wr W280
  have N282 := Fr.snoc X280 N279 q_b272
  have OLD282 := OLD279.wr W280 q_b272
  have K282 := K279.wr W280 (Or.inr sz_b272)
  have Z282 := Nat.le_trans Z279 (Nat.le_of_eq W280.size.symm)
  refine ogoW st280 ?_
  show OwnEndsW _ _ _ _ _ _ _ (T280.setTop (mkF m 67 #[.val (.int p0), .val (.int p1), .val (.int (4 : Int32)), .val (.int (p1.toInt8.toInt32)), .val (.int (((p1.toUInt32 >>> ((8 : Int32) &&& 31).toUInt32).toInt32).toInt8.toInt32)), .val (.int (((p1.toUInt32 >>> ((16 : Int32) &&& 31).toUInt32).toInt32).toInt8.toInt32)), .val (.int (((p1.toUInt32 >>> ((24 : Int32) &&& 31).toUInt32).toInt32).toInt8.toInt32)), .val (.ref b272), .unset, .unset, .unset] []))
  refine ogoW (fun t k => XS.iloadN X280.here hx rfl (hb hby at_67) rfl k) ?_
  show OwnEndsW _ _ _ _ _ _ _ (T280.setTop (mkF m 68 #[.val (.int p0), .val (.int p1), .val (.int (4 : Int32)), .val (.int (p1.toInt8.toInt32)), .val (.int (((p1.toUInt32 >>> ((8 : Int32) &&& 31).toUInt32).toInt32).toInt8.toInt32)), .val (.int (((p1.toUInt32 >>> ((16 : Int32) &&& 31).toUInt32).toInt32).toInt8.toInt32)), .val (.int (((p1.toUInt32 >>> ((24 : Int32) &&& 31).toUInt32).toInt32).toInt8.toInt32)), .val (.ref b272), .unset, .unset, .unset] [(.int (4 : Int32))]))
  refine ogoW (fun t k => XS.iconst X280.here hx rfl (hb hby at_68) k) ?_
  show OwnEndsW _ _ _ _ _ _ _ (T280.setTop (mkF m 69 #[.val (.int p0), .val (.int p1), .val (.int (4 : Int32)), .val (.int (p1.toInt8.toInt32)), .val (.int (((p1.toUInt32 >>> ((8 : Int32) &&& 31).toUInt32).toInt32).toInt8.toInt32)), .val (.int (((p1.toUInt32 >>> ((16 : Int32) &&& 31).toUInt32).toInt32).toInt8.toInt32)), .val (.int (((p1.toUInt32 >>> ((24 : Int32) &&& 31).toUInt32).toInt32).toInt8.toInt32)), .val (.ref b272), .unset, .unset, .unset] [(.int (3 : Int32)), (.int (4 : Int32))]))
  refine ogoW (fun t k => XS.icmpNo X280.here hx rfl (hb hby at_69) rfl (tlt (by decide : (3 : Int32) < (4 : Int32))).2.2.2 k) ?_
  show OwnEndsW _ _ _ _ _ _ _ (T280.setTop (mkF m 72 #[.val (.int p0), .val (.int p1), .val (.int (4 : Int32)), .val (.int (p1.toInt8.toInt32)), .val (.int (((p1.toUInt32 >>> ((8 : Int32) &&& 31).toUInt32).toInt32).toInt8.toInt32)), .val (.int (((p1.toUInt32 >>> ((16 : Int32) &&& 31).toUInt32).toInt32).toInt8.toInt32)), .val (.int (((p1.toUInt32 >>> ((24 : Int32) &&& 31).toUInt32).toInt32).toInt8.toInt32)), .val (.ref b272), .unset, .unset, .unset] []))
  refine ogoW (fun t k => XS.aload X280.here hx rfl (hb hby at_72) rfl rfl k) ?_
  show OwnEndsW _ _ _ _ _ _ _ (T280.setTop (mkF m 74 #[.val (.int p0), .val (.int p1), .val (.int (4 : Int32)), .val (.int (p1.toInt8.toInt32)), .val (.int (((p1.toUInt32 >>> ((8 : Int32) &&& 31).toUInt32).toInt32).toInt8.toInt32)), .val (.int (((p1.toUInt32 >>> ((16 : Int32) &&& 31).toUInt32).toInt32).toInt8.toInt32)), .val (.int (((p1.toUInt32 >>> ((24 : Int32) &&& 31).toUInt32).toInt32).toInt8.toInt32)), .val (.ref b272), .unset, .unset, .unset] [(.ref b272)]))
  refine ogoW (fun t k => XS.iconst X280.here hx rfl (hb hby at_74) k) ?_
  show OwnEndsW _ _ _ _ _ _ _ (T280.setTop (mkF m 75 #[.val (.int p0), .val (.int p1), .val (.int (4 : Int32)), .val (.int (p1.toInt8.toInt32)), .val (.int (((p1.toUInt32 >>> ((8 : Int32) &&& 31).toUInt32).toInt32).toInt8.toInt32)), .val (.int (((p1.toUInt32 >>> ((16 : Int32) &&& 31).toUInt32).toInt32).toInt8.toInt32)), .val (.int (((p1.toUInt32 >>> ((24 : Int32) &&& 31).toUInt32).toInt32).toInt8.toInt32)), .val (.ref b272), .unset, .unset, .unset] [(.int (3 : Int32)), (.ref b272)]))
  refine ogoW (fun t k => XS.iload X280.here hx rfl (hb hby at_75) rfl k) ?_
  show OwnEndsW _ _ _ _ _ _ _ (T280.setTop (mkF m 77 #[.val (.int p0), .val (.int p1), .val (.int (4 : Int32)), .val (.int (p1.toInt8.toInt32)), .val (.int (((p1.toUInt32 >>> ((8 : Int32) &&& 31).toUInt32).toInt32).toInt8.toInt32)), .val (.int (((p1.toUInt32 >>> ((16 : Int32) &&& 31).toUInt32).toInt32).toInt8.toInt32)), .val (.int (((p1.toUInt32 >>> ((24 : Int32) &&& 31).toUInt32).toInt32).toInt8.toInt32)), .val (.ref b272), .unset, .unset, .unset] [(.int (((p1.toUInt32 >>> ((24 : Int32) &&& 31).toUInt32).toInt32).toInt8.toInt32)), (.int (3 : Int32)), (.ref b272)]))
  obtain ⟨cl283, Ar283, Aq283, As283, An283, Ah283, Ag283⟩ := id V280
  obtain ⟨T283, h283, X283, e283, W283, st283⟩ := stB X280 hx hZ e280 Ar283 (j := (3 : Int32)) (inb_of As283 ⟨by decide, by decide⟩) (g := (mkF m 77 #[.val (.int p0), .val (.int p1), .val (.int (4 : Int32)), .val (.int (p1.toInt8.toInt32)), .val (.int (((p1.toUInt32 >>> ((8 : Int32) &&& 31).toUInt32).toInt32).toInt8.toInt32)), .val (.int (((p1.toUInt32 >>> ((16 : Int32) &&& 31).toUInt32).toInt32).toInt8.toInt32)), .val (.int (((p1.toUInt32 >>> ((24 : Int32) &&& 31).toUInt32).toInt32).toInt8.toInt32)), .val (.ref b272), .unset, .unset, .unset] [(.int (((p1.toUInt32 >>> ((24 : Int32) &&& 31).toUInt32).toInt32).toInt8.toInt32)), (.int (3 : Int32)), (.ref b272)])) rfl rfl (hb hby at_77)
  rw [own_narb] at W283
  have V283 : Arv Z h283 b272 k272 .byte (4 : Int32) [(.int (p1.toInt8.toInt32)), (.int (((p1.toUInt32 >>> ((8 : Int32) &&& 31).toUInt32).toInt32).toInt8.toInt32)), (.int (((p1.toUInt32 >>> ((16 : Int32) &&& 31).toUInt32).toInt32).toInt8.toInt32)), (.int (((p1.toUInt32 >>> ((24 : Int32) &&& 31).toUInt32).toInt32).toInt8.toInt32))] (.int (0 : Int32)) := Arv.set Ar283 Aq283 As283 An283 Ah283 Ag283 (fits_nar_byte _) W283 3 rfl (Nat.le_of_ble_eq_true rfl)
  have f284 := f281.wr W283
  have N285 := Fr.snoc X283 N282 q_b272
  have OLD285 := OLD282.wr W283 q_b272
  have K285 := K282.wr W283 (Or.inr sz_b272)
  have Z285 := Nat.le_trans Z282 (Nat.le_of_eq W283.size.symm)
  refine ogoW st283 ?_
  show OwnEndsW _ _ _ _ _ _ _ (T283.setTop (mkF m 78 #[.val (.int p0), .val (.int p1), .val (.int (4 : Int32)), .val (.int (p1.toInt8.toInt32)), .val (.int (((p1.toUInt32 >>> ((8 : Int32) &&& 31).toUInt32).toInt32).toInt8.toInt32)), .val (.int (((p1.toUInt32 >>> ((16 : Int32) &&& 31).toUInt32).toInt32).toInt8.toInt32)), .val (.int (((p1.toUInt32 >>> ((24 : Int32) &&& 31).toUInt32).toInt32).toInt8.toInt32)), .val (.ref b272), .unset, .unset, .unset] []))
  refine ogoW (fun t k => XS.aload X283.here hx rfl (hb hby at_78) rfl rfl k) ?_
  show OwnEndsW _ _ _ _ _ _ _ (T283.setTop (mkF m 80 #[.val (.int p0), .val (.int p1), .val (.int (4 : Int32)), .val (.int (p1.toInt8.toInt32)), .val (.int (((p1.toUInt32 >>> ((8 : Int32) &&& 31).toUInt32).toInt32).toInt8.toInt32)), .val (.int (((p1.toUInt32 >>> ((16 : Int32) &&& 31).toUInt32).toInt32).toInt8.toInt32)), .val (.int (((p1.toUInt32 >>> ((24 : Int32) &&& 31).toUInt32).toInt32).toInt8.toInt32)), .val (.ref b272), .unset, .unset, .unset] [(.ref b272)]))
  obtain ⟨v286, _, ⟨T286, L286, k286, n286⟩, -, X286, hSq286, hgq286, ⟨Lc286, hQ286, l286, y286, z286⟩, st286⟩ := callSS X283 hx (y := (⟨"com/example/once_guard/onceguard/ClaimResult", "inProgress", "([B)Lcom/example/once_guard/onceguard/ClaimResult;"⟩ : MethodName)) hown (mvT hZ (hw _ (List.mem_of_getElem? (i := 2) rfl))) (mvT hZ (hw _ (List.mem_of_getElem? (i := 3) rfl))) (mvT hZ (hw _ (List.mem_of_getElem? (i := 4) rfl))) (mvT hZ (hw _ (List.mem_of_getElem? (i := 5) rfl))) (by decide) (backOfS (W := 0) (rm5 l Z a0 hw [] b272 (4 : Int32) [(.int (p1.toInt8.toInt32)), (.int (((p1.toUInt32 >>> ((8 : Int32) &&& 31).toUInt32).toInt32).toInt8.toInt32)), (.int (((p1.toUInt32 >>> ((16 : Int32) &&& 31).toUInt32).toInt32).toInt8.toInt32)), (.int (((p1.toUInt32 >>> ((24 : Int32) &&& 31).toUInt32).toInt32).toInt8.toInt32))] w_IN_PROGRESS h283 n0 Z285 OLD285 S_IN_PROGRESS ⟨_, V283⟩ f284 (by decide)) hZ (hw _ (List.mem_of_getElem? (i := 5) rfl)) (hw _ (List.mem_of_getElem? (i := 4) rfl)) (by decide) (by decide)) (g := (mkF m 80 #[.val (.int p0), .val (.int p1), .val (.int (4 : Int32)), .val (.int (p1.toInt8.toInt32)), .val (.int (((p1.toUInt32 >>> ((8 : Int32) &&& 31).toUInt32).toInt32).toInt8.toInt32)), .val (.int (((p1.toUInt32 >>> ((16 : Int32) &&& 31).toUInt32).toInt32).toInt8.toInt32)), .val (.int (((p1.toUInt32 >>> ((24 : Int32) &&& 31).toUInt32).toInt32).toInt8.toInt32)), .val (.ref b272), .unset, .unset, .unset] [(.ref b272)])) rfl (by rw [hml]; rfl) (argsL := [(.ref b272)]) (rest := []) (lenOf pd_f29d2ef6 rfl) rfl (by show 2 * 0 + _ ≤ _; exact Nat.le_of_eq rfl) (hb hby at_80) (fun _ _ => ⟨rfl, e283, (by decide : 1 + 4 ≤ _), (by decide : 4 + 132 ≤ _)⟩)
  dsimp only [Pt.U, Pt.locs, Pt.cells, Pt.slots] at X286 l286 y286 z286 st286 hQ286 hSq286 hgq286
  subst l286 y286 z286
  obtain ⟨X286, hS286, hZ, hown⟩ := rebS hS0 (by rw [e283]; exact (Nat.zero_le _)) X286 hSq286 hgq286 hZ hown
  obtain ⟨r286, x286, rfl, Sq286, Sp286, N286q, Kq286, Eq286, Fa286, Fb286, Vq286, Ec286⟩ := hQ286
  have N286 := Fr.app N285 N286q
  have ne_b272_r286 : b272 ≠ r286 := Nat.ne_of_lt (Nat.lt_of_lt_of_le (V283).lt Sq286)
  have q_r286 : n0 ≤ r286 := Nat.le_trans Z285 Sq286
  have sz_r286 : h0.size ≤ r286 := Nat.le_trans K285.1 Sq286
  have ne_b272_x286 : b272 ≠ x286 := Nat.ne_of_lt (Nat.lt_of_lt_of_le (V283).lt Sp286)
  have q_x286 : n0 ≤ x286 := Nat.le_trans Z285 Sp286
  have sz_x286 : h0.size ≤ x286 := Nat.le_trans K285.1 Sp286
  have f287 := V283.keep Kq286 nin0
  have f288 := f284.keep Kq286
  have OLD289 := OLD285.keep Kq286 all0
  have K289 := K285.trans Kq286 all0
  have Z289 := Nat.le_trans Z285 Kq286.1
  refine ogoW (fun t k => st286.trans k) ?_
  show OwnEndsW _ _ _ _ _ _ _ (T286.setTop (mkF m 83 #[.val (.int p0), .val (.int p1), .val (.int (4 : Int32)), .val (.int (p1.toInt8.toInt32)), .val (.int (((p1.toUInt32 >>> ((8 : Int32) &&& 31).toUInt32).toInt32).toInt8.toInt32)), .val (.int (((p1.toUInt32 >>> ((16 : Int32) &&& 31).toUInt32).toInt32).toInt8.toInt32)), .val (.int (((p1.toUInt32 >>> ((24 : Int32) &&& 31).toUInt32).toInt32).toInt8.toInt32)), .val (.ref b272), .unset, .unset, .unset] [(.ref r286)]))
  refine ogoW (fun t k => XS.astore X286.here hx rfl (hb hby at_83) rfl rfl (l' := #[.val (.int p0), .val (.int p1), .val (.int (4 : Int32)), .val (.int (p1.toInt8.toInt32)), .val (.int (((p1.toUInt32 >>> ((8 : Int32) &&& 31).toUInt32).toInt32).toInt8.toInt32)), .val (.int (((p1.toUInt32 >>> ((16 : Int32) &&& 31).toUInt32).toInt32).toInt8.toInt32)), .val (.int (((p1.toUInt32 >>> ((24 : Int32) &&& 31).toUInt32).toInt32).toInt8.toInt32)), .val (.ref b272), .val (.ref r286), .unset, .unset]) rfl k) ?_
  show OwnEndsW _ _ _ _ _ _ _ (T286.setTop (mkF m 85 #[.val (.int p0), .val (.int p1), .val (.int (4 : Int32)), .val (.int (p1.toInt8.toInt32)), .val (.int (((p1.toUInt32 >>> ((8 : Int32) &&& 31).toUInt32).toInt32).toInt8.toInt32)), .val (.int (((p1.toUInt32 >>> ((16 : Int32) &&& 31).toUInt32).toInt32).toInt8.toInt32)), .val (.int (((p1.toUInt32 >>> ((24 : Int32) &&& 31).toUInt32).toInt32).toInt8.toInt32)), .val (.ref b272), .val (.ref r286), .unset, .unset] []))
  refine ogoW (fun t k => XS.iloadN X286.here hx rfl (hb hby at_85) rfl k) ?_
  show OwnEndsW _ _ _ _ _ _ _ (T286.setTop (mkF m 86 #[.val (.int p0), .val (.int p1), .val (.int (4 : Int32)), .val (.int (p1.toInt8.toInt32)), .val (.int (((p1.toUInt32 >>> ((8 : Int32) &&& 31).toUInt32).toInt32).toInt8.toInt32)), .val (.int (((p1.toUInt32 >>> ((16 : Int32) &&& 31).toUInt32).toInt32).toInt8.toInt32)), .val (.int (((p1.toUInt32 >>> ((24 : Int32) &&& 31).toUInt32).toInt32).toInt8.toInt32)), .val (.ref b272), .val (.ref r286), .unset, .unset] [(.int (4 : Int32))]))
  refine ogoW (fun t k => XS.ifNo X286.here hx rfl (hb hby at_86) rfl ((if0 _ _).trans (tlt (by decide : (0 : Int32) < (4 : Int32))).2.2.2) k) ?_
  show OwnEndsW _ _ _ _ _ _ _ (T286.setTop (mkF m 89 #[.val (.int p0), .val (.int p1), .val (.int (4 : Int32)), .val (.int (p1.toInt8.toInt32)), .val (.int (((p1.toUInt32 >>> ((8 : Int32) &&& 31).toUInt32).toInt32).toInt8.toInt32)), .val (.int (((p1.toUInt32 >>> ((16 : Int32) &&& 31).toUInt32).toInt32).toInt8.toInt32)), .val (.int (((p1.toUInt32 >>> ((24 : Int32) &&& 31).toUInt32).toInt32).toInt8.toInt32)), .val (.ref b272), .val (.ref r286), .unset, .unset] []))
  refine ogoW (fun t k => XS.aload X286.here hx rfl (hb hby at_89) rfl rfl k) ?_
  show OwnEndsW _ _ _ _ _ _ _ (T286.setTop (mkF m 91 #[.val (.int p0), .val (.int p1), .val (.int (4 : Int32)), .val (.int (p1.toInt8.toInt32)), .val (.int (((p1.toUInt32 >>> ((8 : Int32) &&& 31).toUInt32).toInt32).toInt8.toInt32)), .val (.int (((p1.toUInt32 >>> ((16 : Int32) &&& 31).toUInt32).toInt32).toInt8.toInt32)), .val (.int (((p1.toUInt32 >>> ((24 : Int32) &&& 31).toUInt32).toInt32).toInt8.toInt32)), .val (.ref b272), .val (.ref r286), .unset, .unset] [(.ref b272)]))
  refine ogoW (fun t k => XS.iconst X286.here hx rfl (hb hby at_91) k) ?_
  show OwnEndsW _ _ _ _ _ _ _ (T286.setTop (mkF m 92 #[.val (.int p0), .val (.int p1), .val (.int (4 : Int32)), .val (.int (p1.toInt8.toInt32)), .val (.int (((p1.toUInt32 >>> ((8 : Int32) &&& 31).toUInt32).toInt32).toInt8.toInt32)), .val (.int (((p1.toUInt32 >>> ((16 : Int32) &&& 31).toUInt32).toInt32).toInt8.toInt32)), .val (.int (((p1.toUInt32 >>> ((24 : Int32) &&& 31).toUInt32).toInt32).toInt8.toInt32)), .val (.ref b272), .val (.ref r286), .unset, .unset] [(.int (0 : Int32)), (.ref b272)]))
  refine ogoW (fun t k => XS.iloadN X286.here hx rfl (hb hby at_92) rfl k) ?_
  show OwnEndsW _ _ _ _ _ _ _ (T286.setTop (mkF m 93 #[.val (.int p0), .val (.int p1), .val (.int (4 : Int32)), .val (.int (p1.toInt8.toInt32)), .val (.int (((p1.toUInt32 >>> ((8 : Int32) &&& 31).toUInt32).toInt32).toInt8.toInt32)), .val (.int (((p1.toUInt32 >>> ((16 : Int32) &&& 31).toUInt32).toInt32).toInt8.toInt32)), .val (.int (((p1.toUInt32 >>> ((24 : Int32) &&& 31).toUInt32).toInt32).toInt8.toInt32)), .val (.ref b272), .val (.ref r286), .unset, .unset] [(.int (p1.toInt8.toInt32)), (.int (0 : Int32)), (.ref b272)]))
  refine ogoW (fun t k => XS.iconst X286.here hx rfl (hb hby at_93) k) ?_
  show OwnEndsW _ _ _ _ _ _ _ (T286.setTop (mkF m 94 #[.val (.int p0), .val (.int p1), .val (.int (4 : Int32)), .val (.int (p1.toInt8.toInt32)), .val (.int (((p1.toUInt32 >>> ((8 : Int32) &&& 31).toUInt32).toInt32).toInt8.toInt32)), .val (.int (((p1.toUInt32 >>> ((16 : Int32) &&& 31).toUInt32).toInt32).toInt8.toInt32)), .val (.int (((p1.toUInt32 >>> ((24 : Int32) &&& 31).toUInt32).toInt32).toInt8.toInt32)), .val (.ref b272), .val (.ref r286), .unset, .unset] [(.int (-1 : Int32)), (.int (p1.toInt8.toInt32)), (.int (0 : Int32)), (.ref b272)]))
  refine ogoW (fun t k => XS.ixor X286.here hx rfl (hb hby at_94) rfl k) ?_
  show OwnEndsW _ _ _ _ _ _ _ (T286.setTop (mkF m 95 #[.val (.int p0), .val (.int p1), .val (.int (4 : Int32)), .val (.int (p1.toInt8.toInt32)), .val (.int (((p1.toUInt32 >>> ((8 : Int32) &&& 31).toUInt32).toInt32).toInt8.toInt32)), .val (.int (((p1.toUInt32 >>> ((16 : Int32) &&& 31).toUInt32).toInt32).toInt8.toInt32)), .val (.int (((p1.toUInt32 >>> ((24 : Int32) &&& 31).toUInt32).toInt32).toInt8.toInt32)), .val (.ref b272), .val (.ref r286), .unset, .unset] [(.int ((p1.toInt8.toInt32) ^^^ (-1 : Int32))), (.int (0 : Int32)), (.ref b272)]))
  refine ogoW (fun t k => XS.i2b X286.here hx rfl (hb hby at_95) rfl k) ?_
  show OwnEndsW _ _ _ _ _ _ _ (T286.setTop (mkF m 96 #[.val (.int p0), .val (.int p1), .val (.int (4 : Int32)), .val (.int (p1.toInt8.toInt32)), .val (.int (((p1.toUInt32 >>> ((8 : Int32) &&& 31).toUInt32).toInt32).toInt8.toInt32)), .val (.int (((p1.toUInt32 >>> ((16 : Int32) &&& 31).toUInt32).toInt32).toInt8.toInt32)), .val (.int (((p1.toUInt32 >>> ((24 : Int32) &&& 31).toUInt32).toInt32).toInt8.toInt32)), .val (.ref b272), .val (.ref r286), .unset, .unset] [(.int (((p1.toInt8.toInt32) ^^^ (-1 : Int32)).toInt8.toInt32)), (.int (0 : Int32)), (.ref b272)]))
  obtain ⟨cl290, Ar290, Aq290, As290, An290, Ah290, Ag290⟩ := id f287
  obtain ⟨T290, h290, X290, e290, W290, st290⟩ := stB X286 hx hZ rfl Ar290 (j := (0 : Int32)) (inb_of As290 ⟨by decide, by decide⟩) (g := (mkF m 96 #[.val (.int p0), .val (.int p1), .val (.int (4 : Int32)), .val (.int (p1.toInt8.toInt32)), .val (.int (((p1.toUInt32 >>> ((8 : Int32) &&& 31).toUInt32).toInt32).toInt8.toInt32)), .val (.int (((p1.toUInt32 >>> ((16 : Int32) &&& 31).toUInt32).toInt32).toInt8.toInt32)), .val (.int (((p1.toUInt32 >>> ((24 : Int32) &&& 31).toUInt32).toInt32).toInt8.toInt32)), .val (.ref b272), .val (.ref r286), .unset, .unset] [(.int (((p1.toInt8.toInt32) ^^^ (-1 : Int32)).toInt8.toInt32)), (.int (0 : Int32)), (.ref b272)])) rfl rfl (hb hby at_96)
  rw [own_narb] at W290
  have V290 : Arv Z h290 b272 k272 .byte (4 : Int32) [(.int (((p1.toInt8.toInt32) ^^^ (-1 : Int32)).toInt8.toInt32)), (.int (((p1.toUInt32 >>> ((8 : Int32) &&& 31).toUInt32).toInt32).toInt8.toInt32)), (.int (((p1.toUInt32 >>> ((16 : Int32) &&& 31).toUInt32).toInt32).toInt8.toInt32)), (.int (((p1.toUInt32 >>> ((24 : Int32) &&& 31).toUInt32).toInt32).toInt8.toInt32))] (.int (0 : Int32)) := Arv.set Ar290 Aq290 As290 An290 Ah290 Ag290 (fits_nar_byte _) W290 0 rfl (Nat.le_of_ble_eq_true rfl)
  have f291 := f288.wr W290
  have f292 := Eq286.wr W290
  have f293 := Fa286.other W290 (Or.inl (Ne.symm ne_b272_r286))
  have f294 := Fb286.other W290 (Or.inl (Ne.symm ne_b272_r286))
  have f295 := Vq286.other W290 (Ne.symm ne_b272_x286)
  have f296 := Ec286.wr W290
  have N297 := Fr.snoc X290 N286 q_b272
  have OLD297 := OLD289.wr W290 q_b272
  have K297 := K289.wr W290 (Or.inr sz_b272)
  have Z297 := Nat.le_trans Z289 (Nat.le_of_eq W290.size.symm)
  have hk298 := Nat.le_trans (Nat.le_refl _) (Nat.le_of_eq W290.size.symm)
  refine ogoW st290 ?_
  show OwnEndsW _ _ _ _ _ _ _ (T290.setTop (mkF m 97 #[.val (.int p0), .val (.int p1), .val (.int (4 : Int32)), .val (.int (p1.toInt8.toInt32)), .val (.int (((p1.toUInt32 >>> ((8 : Int32) &&& 31).toUInt32).toInt32).toInt8.toInt32)), .val (.int (((p1.toUInt32 >>> ((16 : Int32) &&& 31).toUInt32).toInt32).toInt8.toInt32)), .val (.int (((p1.toUInt32 >>> ((24 : Int32) &&& 31).toUInt32).toInt32).toInt8.toInt32)), .val (.ref b272), .val (.ref r286), .unset, .unset] []))
  refine ogoW (fun t k => XS.iloadN X290.here hx rfl (hb hby at_97) rfl k) ?_
  show OwnEndsW _ _ _ _ _ _ _ (T290.setTop (mkF m 98 #[.val (.int p0), .val (.int p1), .val (.int (4 : Int32)), .val (.int (p1.toInt8.toInt32)), .val (.int (((p1.toUInt32 >>> ((8 : Int32) &&& 31).toUInt32).toInt32).toInt8.toInt32)), .val (.int (((p1.toUInt32 >>> ((16 : Int32) &&& 31).toUInt32).toInt32).toInt8.toInt32)), .val (.int (((p1.toUInt32 >>> ((24 : Int32) &&& 31).toUInt32).toInt32).toInt8.toInt32)), .val (.ref b272), .val (.ref r286), .unset, .unset] [(.int (4 : Int32))]))
  refine ogoW (fun t k => XS.iconst X290.here hx rfl (hb hby at_98) k) ?_
  show OwnEndsW _ _ _ _ _ _ _ (T290.setTop (mkF m 99 #[.val (.int p0), .val (.int p1), .val (.int (4 : Int32)), .val (.int (p1.toInt8.toInt32)), .val (.int (((p1.toUInt32 >>> ((8 : Int32) &&& 31).toUInt32).toInt32).toInt8.toInt32)), .val (.int (((p1.toUInt32 >>> ((16 : Int32) &&& 31).toUInt32).toInt32).toInt8.toInt32)), .val (.int (((p1.toUInt32 >>> ((24 : Int32) &&& 31).toUInt32).toInt32).toInt8.toInt32)), .val (.ref b272), .val (.ref r286), .unset, .unset] [(.int (1 : Int32)), (.int (4 : Int32))]))
  refine ogoW (fun t k => XS.icmpNo X290.here hx rfl (hb hby at_99) rfl (tlt (by decide : (1 : Int32) < (4 : Int32))).2.2.2 k) ?_
  show OwnEndsW _ _ _ _ _ _ _ (T290.setTop (mkF m 102 #[.val (.int p0), .val (.int p1), .val (.int (4 : Int32)), .val (.int (p1.toInt8.toInt32)), .val (.int (((p1.toUInt32 >>> ((8 : Int32) &&& 31).toUInt32).toInt32).toInt8.toInt32)), .val (.int (((p1.toUInt32 >>> ((16 : Int32) &&& 31).toUInt32).toInt32).toInt8.toInt32)), .val (.int (((p1.toUInt32 >>> ((24 : Int32) &&& 31).toUInt32).toInt32).toInt8.toInt32)), .val (.ref b272), .val (.ref r286), .unset, .unset] []))
  refine ogoW (fun t k => XS.aload X290.here hx rfl (hb hby at_102) rfl rfl k) ?_
  show OwnEndsW _ _ _ _ _ _ _ (T290.setTop (mkF m 104 #[.val (.int p0), .val (.int p1), .val (.int (4 : Int32)), .val (.int (p1.toInt8.toInt32)), .val (.int (((p1.toUInt32 >>> ((8 : Int32) &&& 31).toUInt32).toInt32).toInt8.toInt32)), .val (.int (((p1.toUInt32 >>> ((16 : Int32) &&& 31).toUInt32).toInt32).toInt8.toInt32)), .val (.int (((p1.toUInt32 >>> ((24 : Int32) &&& 31).toUInt32).toInt32).toInt8.toInt32)), .val (.ref b272), .val (.ref r286), .unset, .unset] [(.ref b272)]))
  refine ogoW (fun t k => XS.iconst X290.here hx rfl (hb hby at_104) k) ?_
  show OwnEndsW _ _ _ _ _ _ _ (T290.setTop (mkF m 105 #[.val (.int p0), .val (.int p1), .val (.int (4 : Int32)), .val (.int (p1.toInt8.toInt32)), .val (.int (((p1.toUInt32 >>> ((8 : Int32) &&& 31).toUInt32).toInt32).toInt8.toInt32)), .val (.int (((p1.toUInt32 >>> ((16 : Int32) &&& 31).toUInt32).toInt32).toInt8.toInt32)), .val (.int (((p1.toUInt32 >>> ((24 : Int32) &&& 31).toUInt32).toInt32).toInt8.toInt32)), .val (.ref b272), .val (.ref r286), .unset, .unset] [(.int (1 : Int32)), (.ref b272)]))
  refine ogoW (fun t k => XS.iload X290.here hx rfl (hb hby at_105) rfl k) ?_
  show OwnEndsW _ _ _ _ _ _ _ (T290.setTop (mkF m 107 #[.val (.int p0), .val (.int p1), .val (.int (4 : Int32)), .val (.int (p1.toInt8.toInt32)), .val (.int (((p1.toUInt32 >>> ((8 : Int32) &&& 31).toUInt32).toInt32).toInt8.toInt32)), .val (.int (((p1.toUInt32 >>> ((16 : Int32) &&& 31).toUInt32).toInt32).toInt8.toInt32)), .val (.int (((p1.toUInt32 >>> ((24 : Int32) &&& 31).toUInt32).toInt32).toInt8.toInt32)), .val (.ref b272), .val (.ref r286), .unset, .unset] [(.int (((p1.toUInt32 >>> ((8 : Int32) &&& 31).toUInt32).toInt32).toInt8.toInt32)), (.int (1 : Int32)), (.ref b272)]))
  refine ogoW (fun t k => XS.iconst X290.here hx rfl (hb hby at_107) k) ?_
  show OwnEndsW _ _ _ _ _ _ _ (T290.setTop (mkF m 108 #[.val (.int p0), .val (.int p1), .val (.int (4 : Int32)), .val (.int (p1.toInt8.toInt32)), .val (.int (((p1.toUInt32 >>> ((8 : Int32) &&& 31).toUInt32).toInt32).toInt8.toInt32)), .val (.int (((p1.toUInt32 >>> ((16 : Int32) &&& 31).toUInt32).toInt32).toInt8.toInt32)), .val (.int (((p1.toUInt32 >>> ((24 : Int32) &&& 31).toUInt32).toInt32).toInt8.toInt32)), .val (.ref b272), .val (.ref r286), .unset, .unset] [(.int (-1 : Int32)), (.int (((p1.toUInt32 >>> ((8 : Int32) &&& 31).toUInt32).toInt32).toInt8.toInt32)), (.int (1 : Int32)), (.ref b272)]))
  refine ogoW (fun t k => XS.ixor X290.here hx rfl (hb hby at_108) rfl k) ?_
  show OwnEndsW _ _ _ _ _ _ _ (T290.setTop (mkF m 109 #[.val (.int p0), .val (.int p1), .val (.int (4 : Int32)), .val (.int (p1.toInt8.toInt32)), .val (.int (((p1.toUInt32 >>> ((8 : Int32) &&& 31).toUInt32).toInt32).toInt8.toInt32)), .val (.int (((p1.toUInt32 >>> ((16 : Int32) &&& 31).toUInt32).toInt32).toInt8.toInt32)), .val (.int (((p1.toUInt32 >>> ((24 : Int32) &&& 31).toUInt32).toInt32).toInt8.toInt32)), .val (.ref b272), .val (.ref r286), .unset, .unset] [(.int ((((p1.toUInt32 >>> ((8 : Int32) &&& 31).toUInt32).toInt32).toInt8.toInt32) ^^^ (-1 : Int32))), (.int (1 : Int32)), (.ref b272)]))
  refine ogoW (fun t k => XS.i2b X290.here hx rfl (hb hby at_109) rfl k) ?_
  show OwnEndsW _ _ _ _ _ _ _ (T290.setTop (mkF m 110 #[.val (.int p0), .val (.int p1), .val (.int (4 : Int32)), .val (.int (p1.toInt8.toInt32)), .val (.int (((p1.toUInt32 >>> ((8 : Int32) &&& 31).toUInt32).toInt32).toInt8.toInt32)), .val (.int (((p1.toUInt32 >>> ((16 : Int32) &&& 31).toUInt32).toInt32).toInt8.toInt32)), .val (.int (((p1.toUInt32 >>> ((24 : Int32) &&& 31).toUInt32).toInt32).toInt8.toInt32)), .val (.ref b272), .val (.ref r286), .unset, .unset] [(.int (((((p1.toUInt32 >>> ((8 : Int32) &&& 31).toUInt32).toInt32).toInt8.toInt32) ^^^ (-1 : Int32)).toInt8.toInt32)), (.int (1 : Int32)), (.ref b272)]))
  obtain ⟨cl299, Ar299, Aq299, As299, An299, Ah299, Ag299⟩ := id V290
  obtain ⟨T299, h299, X299, e299, W299, st299⟩ := stB X290 hx hZ e290 Ar299 (j := (1 : Int32)) (inb_of As299 ⟨by decide, by decide⟩) (g := (mkF m 110 #[.val (.int p0), .val (.int p1), .val (.int (4 : Int32)), .val (.int (p1.toInt8.toInt32)), .val (.int (((p1.toUInt32 >>> ((8 : Int32) &&& 31).toUInt32).toInt32).toInt8.toInt32)), .val (.int (((p1.toUInt32 >>> ((16 : Int32) &&& 31).toUInt32).toInt32).toInt8.toInt32)), .val (.int (((p1.toUInt32 >>> ((24 : Int32) &&& 31).toUInt32).toInt32).toInt8.toInt32)), .val (.ref b272), .val (.ref r286), .unset, .unset] [(.int (((((p1.toUInt32 >>> ((8 : Int32) &&& 31).toUInt32).toInt32).toInt8.toInt32) ^^^ (-1 : Int32)).toInt8.toInt32)), (.int (1 : Int32)), (.ref b272)])) rfl rfl (hb hby at_110)
  rw [own_narb] at W299
  have V299 : Arv Z h299 b272 k272 .byte (4 : Int32) [(.int (((p1.toInt8.toInt32) ^^^ (-1 : Int32)).toInt8.toInt32)), (.int (((((p1.toUInt32 >>> ((8 : Int32) &&& 31).toUInt32).toInt32).toInt8.toInt32) ^^^ (-1 : Int32)).toInt8.toInt32)), (.int (((p1.toUInt32 >>> ((16 : Int32) &&& 31).toUInt32).toInt32).toInt8.toInt32)), (.int (((p1.toUInt32 >>> ((24 : Int32) &&& 31).toUInt32).toInt32).toInt8.toInt32))] (.int (0 : Int32)) := Arv.set Ar299 Aq299 As299 An299 Ah299 Ag299 (fits_nar_byte _) W299 1 rfl (Nat.le_of_ble_eq_true rfl)
  have f300 := f291.wr W299
  have f301 := f292.wr W299
  have f302 := f293.other W299 (Or.inl (Ne.symm ne_b272_r286))
  have f303 := f294.other W299 (Or.inl (Ne.symm ne_b272_r286))
  have f304 := f295.other W299 (Ne.symm ne_b272_x286)
  have f305 := f296.wr W299
  have N306 := Fr.snoc X299 N297 q_b272
  have OLD306 := OLD297.wr W299 q_b272
  have K306 := K297.wr W299 (Or.inr sz_b272)
  have Z306 := Nat.le_trans Z297 (Nat.le_of_eq W299.size.symm)
  have hk307 := Nat.le_trans hk298 (Nat.le_of_eq W299.size.symm)
  refine ogoW st299 ?_
  show OwnEndsW _ _ _ _ _ _ _ (T299.setTop (mkF m 111 #[.val (.int p0), .val (.int p1), .val (.int (4 : Int32)), .val (.int (p1.toInt8.toInt32)), .val (.int (((p1.toUInt32 >>> ((8 : Int32) &&& 31).toUInt32).toInt32).toInt8.toInt32)), .val (.int (((p1.toUInt32 >>> ((16 : Int32) &&& 31).toUInt32).toInt32).toInt8.toInt32)), .val (.int (((p1.toUInt32 >>> ((24 : Int32) &&& 31).toUInt32).toInt32).toInt8.toInt32)), .val (.ref b272), .val (.ref r286), .unset, .unset] []))
  refine ogoW (fun t k => XS.iloadN X299.here hx rfl (hb hby at_111) rfl k) ?_
  show OwnEndsW _ _ _ _ _ _ _ (T299.setTop (mkF m 112 #[.val (.int p0), .val (.int p1), .val (.int (4 : Int32)), .val (.int (p1.toInt8.toInt32)), .val (.int (((p1.toUInt32 >>> ((8 : Int32) &&& 31).toUInt32).toInt32).toInt8.toInt32)), .val (.int (((p1.toUInt32 >>> ((16 : Int32) &&& 31).toUInt32).toInt32).toInt8.toInt32)), .val (.int (((p1.toUInt32 >>> ((24 : Int32) &&& 31).toUInt32).toInt32).toInt8.toInt32)), .val (.ref b272), .val (.ref r286), .unset, .unset] [(.int (4 : Int32))]))
  refine ogoW (fun t k => XS.iconst X299.here hx rfl (hb hby at_112) k) ?_
  show OwnEndsW _ _ _ _ _ _ _ (T299.setTop (mkF m 113 #[.val (.int p0), .val (.int p1), .val (.int (4 : Int32)), .val (.int (p1.toInt8.toInt32)), .val (.int (((p1.toUInt32 >>> ((8 : Int32) &&& 31).toUInt32).toInt32).toInt8.toInt32)), .val (.int (((p1.toUInt32 >>> ((16 : Int32) &&& 31).toUInt32).toInt32).toInt8.toInt32)), .val (.int (((p1.toUInt32 >>> ((24 : Int32) &&& 31).toUInt32).toInt32).toInt8.toInt32)), .val (.ref b272), .val (.ref r286), .unset, .unset] [(.int (2 : Int32)), (.int (4 : Int32))]))
  refine ogoW (fun t k => XS.icmpNo X299.here hx rfl (hb hby at_113) rfl (tlt (by decide : (2 : Int32) < (4 : Int32))).2.2.2 k) ?_
  show OwnEndsW _ _ _ _ _ _ _ (T299.setTop (mkF m 116 #[.val (.int p0), .val (.int p1), .val (.int (4 : Int32)), .val (.int (p1.toInt8.toInt32)), .val (.int (((p1.toUInt32 >>> ((8 : Int32) &&& 31).toUInt32).toInt32).toInt8.toInt32)), .val (.int (((p1.toUInt32 >>> ((16 : Int32) &&& 31).toUInt32).toInt32).toInt8.toInt32)), .val (.int (((p1.toUInt32 >>> ((24 : Int32) &&& 31).toUInt32).toInt32).toInt8.toInt32)), .val (.ref b272), .val (.ref r286), .unset, .unset] []))
  refine ogoW (fun t k => XS.aload X299.here hx rfl (hb hby at_116) rfl rfl k) ?_
  show OwnEndsW _ _ _ _ _ _ _ (T299.setTop (mkF m 118 #[.val (.int p0), .val (.int p1), .val (.int (4 : Int32)), .val (.int (p1.toInt8.toInt32)), .val (.int (((p1.toUInt32 >>> ((8 : Int32) &&& 31).toUInt32).toInt32).toInt8.toInt32)), .val (.int (((p1.toUInt32 >>> ((16 : Int32) &&& 31).toUInt32).toInt32).toInt8.toInt32)), .val (.int (((p1.toUInt32 >>> ((24 : Int32) &&& 31).toUInt32).toInt32).toInt8.toInt32)), .val (.ref b272), .val (.ref r286), .unset, .unset] [(.ref b272)]))
  refine ogoW (fun t k => XS.iconst X299.here hx rfl (hb hby at_118) k) ?_
  show OwnEndsW _ _ _ _ _ _ _ (T299.setTop (mkF m 119 #[.val (.int p0), .val (.int p1), .val (.int (4 : Int32)), .val (.int (p1.toInt8.toInt32)), .val (.int (((p1.toUInt32 >>> ((8 : Int32) &&& 31).toUInt32).toInt32).toInt8.toInt32)), .val (.int (((p1.toUInt32 >>> ((16 : Int32) &&& 31).toUInt32).toInt32).toInt8.toInt32)), .val (.int (((p1.toUInt32 >>> ((24 : Int32) &&& 31).toUInt32).toInt32).toInt8.toInt32)), .val (.ref b272), .val (.ref r286), .unset, .unset] [(.int (2 : Int32)), (.ref b272)]))
  refine ogoW (fun t k => XS.iload X299.here hx rfl (hb hby at_119) rfl k) ?_
  show OwnEndsW _ _ _ _ _ _ _ (T299.setTop (mkF m 121 #[.val (.int p0), .val (.int p1), .val (.int (4 : Int32)), .val (.int (p1.toInt8.toInt32)), .val (.int (((p1.toUInt32 >>> ((8 : Int32) &&& 31).toUInt32).toInt32).toInt8.toInt32)), .val (.int (((p1.toUInt32 >>> ((16 : Int32) &&& 31).toUInt32).toInt32).toInt8.toInt32)), .val (.int (((p1.toUInt32 >>> ((24 : Int32) &&& 31).toUInt32).toInt32).toInt8.toInt32)), .val (.ref b272), .val (.ref r286), .unset, .unset] [(.int (((p1.toUInt32 >>> ((16 : Int32) &&& 31).toUInt32).toInt32).toInt8.toInt32)), (.int (2 : Int32)), (.ref b272)]))
  refine ogoW (fun t k => XS.iconst X299.here hx rfl (hb hby at_121) k) ?_
  show OwnEndsW _ _ _ _ _ _ _ (T299.setTop (mkF m 122 #[.val (.int p0), .val (.int p1), .val (.int (4 : Int32)), .val (.int (p1.toInt8.toInt32)), .val (.int (((p1.toUInt32 >>> ((8 : Int32) &&& 31).toUInt32).toInt32).toInt8.toInt32)), .val (.int (((p1.toUInt32 >>> ((16 : Int32) &&& 31).toUInt32).toInt32).toInt8.toInt32)), .val (.int (((p1.toUInt32 >>> ((24 : Int32) &&& 31).toUInt32).toInt32).toInt8.toInt32)), .val (.ref b272), .val (.ref r286), .unset, .unset] [(.int (-1 : Int32)), (.int (((p1.toUInt32 >>> ((16 : Int32) &&& 31).toUInt32).toInt32).toInt8.toInt32)), (.int (2 : Int32)), (.ref b272)]))
  refine ogoW (fun t k => XS.ixor X299.here hx rfl (hb hby at_122) rfl k) ?_
  show OwnEndsW _ _ _ _ _ _ _ (T299.setTop (mkF m 123 #[.val (.int p0), .val (.int p1), .val (.int (4 : Int32)), .val (.int (p1.toInt8.toInt32)), .val (.int (((p1.toUInt32 >>> ((8 : Int32) &&& 31).toUInt32).toInt32).toInt8.toInt32)), .val (.int (((p1.toUInt32 >>> ((16 : Int32) &&& 31).toUInt32).toInt32).toInt8.toInt32)), .val (.int (((p1.toUInt32 >>> ((24 : Int32) &&& 31).toUInt32).toInt32).toInt8.toInt32)), .val (.ref b272), .val (.ref r286), .unset, .unset] [(.int ((((p1.toUInt32 >>> ((16 : Int32) &&& 31).toUInt32).toInt32).toInt8.toInt32) ^^^ (-1 : Int32))), (.int (2 : Int32)), (.ref b272)]))
  refine ogoW (fun t k => XS.i2b X299.here hx rfl (hb hby at_123) rfl k) ?_
  show OwnEndsW _ _ _ _ _ _ _ (T299.setTop (mkF m 124 #[.val (.int p0), .val (.int p1), .val (.int (4 : Int32)), .val (.int (p1.toInt8.toInt32)), .val (.int (((p1.toUInt32 >>> ((8 : Int32) &&& 31).toUInt32).toInt32).toInt8.toInt32)), .val (.int (((p1.toUInt32 >>> ((16 : Int32) &&& 31).toUInt32).toInt32).toInt8.toInt32)), .val (.int (((p1.toUInt32 >>> ((24 : Int32) &&& 31).toUInt32).toInt32).toInt8.toInt32)), .val (.ref b272), .val (.ref r286), .unset, .unset] [(.int (((((p1.toUInt32 >>> ((16 : Int32) &&& 31).toUInt32).toInt32).toInt8.toInt32) ^^^ (-1 : Int32)).toInt8.toInt32)), (.int (2 : Int32)), (.ref b272)]))
  obtain ⟨cl308, Ar308, Aq308, As308, An308, Ah308, Ag308⟩ := id V299
  obtain ⟨T308, h308, X308, e308, W308, st308⟩ := stB X299 hx hZ e299 Ar308 (j := (2 : Int32)) (inb_of As308 ⟨by decide, by decide⟩) (g := (mkF m 124 #[.val (.int p0), .val (.int p1), .val (.int (4 : Int32)), .val (.int (p1.toInt8.toInt32)), .val (.int (((p1.toUInt32 >>> ((8 : Int32) &&& 31).toUInt32).toInt32).toInt8.toInt32)), .val (.int (((p1.toUInt32 >>> ((16 : Int32) &&& 31).toUInt32).toInt32).toInt8.toInt32)), .val (.int (((p1.toUInt32 >>> ((24 : Int32) &&& 31).toUInt32).toInt32).toInt8.toInt32)), .val (.ref b272), .val (.ref r286), .unset, .unset] [(.int (((((p1.toUInt32 >>> ((16 : Int32) &&& 31).toUInt32).toInt32).toInt8.toInt32) ^^^ (-1 : Int32)).toInt8.toInt32)), (.int (2 : Int32)), (.ref b272)])) rfl rfl (hb hby at_124)
  rw [own_narb] at W308
  have V308 : Arv Z h308 b272 k272 .byte (4 : Int32) [(.int (((p1.toInt8.toInt32) ^^^ (-1 : Int32)).toInt8.toInt32)), (.int (((((p1.toUInt32 >>> ((8 : Int32) &&& 31).toUInt32).toInt32).toInt8.toInt32) ^^^ (-1 : Int32)).toInt8.toInt32)), (.int (((((p1.toUInt32 >>> ((16 : Int32) &&& 31).toUInt32).toInt32).toInt8.toInt32) ^^^ (-1 : Int32)).toInt8.toInt32)), (.int (((p1.toUInt32 >>> ((24 : Int32) &&& 31).toUInt32).toInt32).toInt8.toInt32))] (.int (0 : Int32)) := Arv.set Ar308 Aq308 As308 An308 Ah308 Ag308 (fits_nar_byte _) W308 2 rfl (Nat.le_of_ble_eq_true rfl)
  have f309 := f300.wr W308
  have f310 := f301.wr W308
  have f311 := f302.other W308 (Or.inl (Ne.symm ne_b272_r286))
  have f312 := f303.other W308 (Or.inl (Ne.symm ne_b272_r286))
  have f313 := f304.other W308 (Ne.symm ne_b272_x286)
  have f314 := f305.wr W308
  have N315 := Fr.snoc X308 N306 q_b272
  have OLD315 := OLD306.wr W308 q_b272
  have K315 := K306.wr W308 (Or.inr sz_b272)
  have Z315 := Nat.le_trans Z306 (Nat.le_of_eq W308.size.symm)
  have hk316 := Nat.le_trans hk307 (Nat.le_of_eq W308.size.symm)
  refine ogoW st308 ?_
  show OwnEndsW _ _ _ _ _ _ _ (T308.setTop (mkF m 125 #[.val (.int p0), .val (.int p1), .val (.int (4 : Int32)), .val (.int (p1.toInt8.toInt32)), .val (.int (((p1.toUInt32 >>> ((8 : Int32) &&& 31).toUInt32).toInt32).toInt8.toInt32)), .val (.int (((p1.toUInt32 >>> ((16 : Int32) &&& 31).toUInt32).toInt32).toInt8.toInt32)), .val (.int (((p1.toUInt32 >>> ((24 : Int32) &&& 31).toUInt32).toInt32).toInt8.toInt32)), .val (.ref b272), .val (.ref r286), .unset, .unset] []))
  refine ogoW (fun t k => XS.iloadN X308.here hx rfl (hb hby at_125) rfl k) ?_
  show OwnEndsW _ _ _ _ _ _ _ (T308.setTop (mkF m 126 #[.val (.int p0), .val (.int p1), .val (.int (4 : Int32)), .val (.int (p1.toInt8.toInt32)), .val (.int (((p1.toUInt32 >>> ((8 : Int32) &&& 31).toUInt32).toInt32).toInt8.toInt32)), .val (.int (((p1.toUInt32 >>> ((16 : Int32) &&& 31).toUInt32).toInt32).toInt8.toInt32)), .val (.int (((p1.toUInt32 >>> ((24 : Int32) &&& 31).toUInt32).toInt32).toInt8.toInt32)), .val (.ref b272), .val (.ref r286), .unset, .unset] [(.int (4 : Int32))]))
  refine ogoW (fun t k => XS.iconst X308.here hx rfl (hb hby at_126) k) ?_
  show OwnEndsW _ _ _ _ _ _ _ (T308.setTop (mkF m 127 #[.val (.int p0), .val (.int p1), .val (.int (4 : Int32)), .val (.int (p1.toInt8.toInt32)), .val (.int (((p1.toUInt32 >>> ((8 : Int32) &&& 31).toUInt32).toInt32).toInt8.toInt32)), .val (.int (((p1.toUInt32 >>> ((16 : Int32) &&& 31).toUInt32).toInt32).toInt8.toInt32)), .val (.int (((p1.toUInt32 >>> ((24 : Int32) &&& 31).toUInt32).toInt32).toInt8.toInt32)), .val (.ref b272), .val (.ref r286), .unset, .unset] [(.int (3 : Int32)), (.int (4 : Int32))]))
  refine ogoW (fun t k => XS.icmpNo X308.here hx rfl (hb hby at_127) rfl (tlt (by decide : (3 : Int32) < (4 : Int32))).2.2.2 k) ?_
  show OwnEndsW _ _ _ _ _ _ _ (T308.setTop (mkF m 130 #[.val (.int p0), .val (.int p1), .val (.int (4 : Int32)), .val (.int (p1.toInt8.toInt32)), .val (.int (((p1.toUInt32 >>> ((8 : Int32) &&& 31).toUInt32).toInt32).toInt8.toInt32)), .val (.int (((p1.toUInt32 >>> ((16 : Int32) &&& 31).toUInt32).toInt32).toInt8.toInt32)), .val (.int (((p1.toUInt32 >>> ((24 : Int32) &&& 31).toUInt32).toInt32).toInt8.toInt32)), .val (.ref b272), .val (.ref r286), .unset, .unset] []))
  refine ogoW (fun t k => XS.aload X308.here hx rfl (hb hby at_130) rfl rfl k) ?_
  show OwnEndsW _ _ _ _ _ _ _ (T308.setTop (mkF m 132 #[.val (.int p0), .val (.int p1), .val (.int (4 : Int32)), .val (.int (p1.toInt8.toInt32)), .val (.int (((p1.toUInt32 >>> ((8 : Int32) &&& 31).toUInt32).toInt32).toInt8.toInt32)), .val (.int (((p1.toUInt32 >>> ((16 : Int32) &&& 31).toUInt32).toInt32).toInt8.toInt32)), .val (.int (((p1.toUInt32 >>> ((24 : Int32) &&& 31).toUInt32).toInt32).toInt8.toInt32)), .val (.ref b272), .val (.ref r286), .unset, .unset] [(.ref b272)]))
  refine ogoW (fun t k => XS.iconst X308.here hx rfl (hb hby at_132) k) ?_
  show OwnEndsW _ _ _ _ _ _ _ (T308.setTop (mkF m 133 #[.val (.int p0), .val (.int p1), .val (.int (4 : Int32)), .val (.int (p1.toInt8.toInt32)), .val (.int (((p1.toUInt32 >>> ((8 : Int32) &&& 31).toUInt32).toInt32).toInt8.toInt32)), .val (.int (((p1.toUInt32 >>> ((16 : Int32) &&& 31).toUInt32).toInt32).toInt8.toInt32)), .val (.int (((p1.toUInt32 >>> ((24 : Int32) &&& 31).toUInt32).toInt32).toInt8.toInt32)), .val (.ref b272), .val (.ref r286), .unset, .unset] [(.int (3 : Int32)), (.ref b272)]))
  refine ogoW (fun t k => XS.iload X308.here hx rfl (hb hby at_133) rfl k) ?_
  show OwnEndsW _ _ _ _ _ _ _ (T308.setTop (mkF m 135 #[.val (.int p0), .val (.int p1), .val (.int (4 : Int32)), .val (.int (p1.toInt8.toInt32)), .val (.int (((p1.toUInt32 >>> ((8 : Int32) &&& 31).toUInt32).toInt32).toInt8.toInt32)), .val (.int (((p1.toUInt32 >>> ((16 : Int32) &&& 31).toUInt32).toInt32).toInt8.toInt32)), .val (.int (((p1.toUInt32 >>> ((24 : Int32) &&& 31).toUInt32).toInt32).toInt8.toInt32)), .val (.ref b272), .val (.ref r286), .unset, .unset] [(.int (((p1.toUInt32 >>> ((24 : Int32) &&& 31).toUInt32).toInt32).toInt8.toInt32)), (.int (3 : Int32)), (.ref b272)]))
  refine ogoW (fun t k => XS.iconst X308.here hx rfl (hb hby at_135) k) ?_
  show OwnEndsW _ _ _ _ _ _ _ (T308.setTop (mkF m 136 #[.val (.int p0), .val (.int p1), .val (.int (4 : Int32)), .val (.int (p1.toInt8.toInt32)), .val (.int (((p1.toUInt32 >>> ((8 : Int32) &&& 31).toUInt32).toInt32).toInt8.toInt32)), .val (.int (((p1.toUInt32 >>> ((16 : Int32) &&& 31).toUInt32).toInt32).toInt8.toInt32)), .val (.int (((p1.toUInt32 >>> ((24 : Int32) &&& 31).toUInt32).toInt32).toInt8.toInt32)), .val (.ref b272), .val (.ref r286), .unset, .unset] [(.int (-1 : Int32)), (.int (((p1.toUInt32 >>> ((24 : Int32) &&& 31).toUInt32).toInt32).toInt8.toInt32)), (.int (3 : Int32)), (.ref b272)]))
  refine ogoW (fun t k => XS.ixor X308.here hx rfl (hb hby at_136) rfl k) ?_
  show OwnEndsW _ _ _ _ _ _ _ (T308.setTop (mkF m 137 #[.val (.int p0), .val (.int p1), .val (.int (4 : Int32)), .val (.int (p1.toInt8.toInt32)), .val (.int (((p1.toUInt32 >>> ((8 : Int32) &&& 31).toUInt32).toInt32).toInt8.toInt32)), .val (.int (((p1.toUInt32 >>> ((16 : Int32) &&& 31).toUInt32).toInt32).toInt8.toInt32)), .val (.int (((p1.toUInt32 >>> ((24 : Int32) &&& 31).toUInt32).toInt32).toInt8.toInt32)), .val (.ref b272), .val (.ref r286), .unset, .unset] [(.int ((((p1.toUInt32 >>> ((24 : Int32) &&& 31).toUInt32).toInt32).toInt8.toInt32) ^^^ (-1 : Int32))), (.int (3 : Int32)), (.ref b272)]))
  refine ogoW (fun t k => XS.i2b X308.here hx rfl (hb hby at_137) rfl k) ?_
  show OwnEndsW _ _ _ _ _ _ _ (T308.setTop (mkF m 138 #[.val (.int p0), .val (.int p1), .val (.int (4 : Int32)), .val (.int (p1.toInt8.toInt32)), .val (.int (((p1.toUInt32 >>> ((8 : Int32) &&& 31).toUInt32).toInt32).toInt8.toInt32)), .val (.int (((p1.toUInt32 >>> ((16 : Int32) &&& 31).toUInt32).toInt32).toInt8.toInt32)), .val (.int (((p1.toUInt32 >>> ((24 : Int32) &&& 31).toUInt32).toInt32).toInt8.toInt32)), .val (.ref b272), .val (.ref r286), .unset, .unset] [(.int (((((p1.toUInt32 >>> ((24 : Int32) &&& 31).toUInt32).toInt32).toInt8.toInt32) ^^^ (-1 : Int32)).toInt8.toInt32)), (.int (3 : Int32)), (.ref b272)]))
  obtain ⟨cl317, Ar317, Aq317, As317, An317, Ah317, Ag317⟩ := id V308
  obtain ⟨T317, h317, X317, e317, W317, st317⟩ := stB X308 hx hZ e308 Ar317 (j := (3 : Int32)) (inb_of As317 ⟨by decide, by decide⟩) (g := (mkF m 138 #[.val (.int p0), .val (.int p1), .val (.int (4 : Int32)), .val (.int (p1.toInt8.toInt32)), .val (.int (((p1.toUInt32 >>> ((8 : Int32) &&& 31).toUInt32).toInt32).toInt8.toInt32)), .val (.int (((p1.toUInt32 >>> ((16 : Int32) &&& 31).toUInt32).toInt32).toInt8.toInt32)), .val (.int (((p1.toUInt32 >>> ((24 : Int32) &&& 31).toUInt32).toInt32).toInt8.toInt32)), .val (.ref b272), .val (.ref r286), .unset, .unset] [(.int (((((p1.toUInt32 >>> ((24 : Int32) &&& 31).toUInt32).toInt32).toInt8.toInt32) ^^^ (-1 : Int32)).toInt8.toInt32)), (.int (3 : Int32)), (.ref b272)])) rfl rfl (hb hby at_138)
  rw [own_narb] at W317
  have V317 : Arv Z h317 b272 k272 .byte (4 : Int32) [(.int (((p1.toInt8.toInt32) ^^^ (-1 : Int32)).toInt8.toInt32)), (.int (((((p1.toUInt32 >>> ((8 : Int32) &&& 31).toUInt32).toInt32).toInt8.toInt32) ^^^ (-1 : Int32)).toInt8.toInt32)), (.int (((((p1.toUInt32 >>> ((16 : Int32) &&& 31).toUInt32).toInt32).toInt8.toInt32) ^^^ (-1 : Int32)).toInt8.toInt32)), (.int (((((p1.toUInt32 >>> ((24 : Int32) &&& 31).toUInt32).toInt32).toInt8.toInt32) ^^^ (-1 : Int32)).toInt8.toInt32))] (.int (0 : Int32)) := Arv.set Ar317 Aq317 As317 An317 Ah317 Ag317 (fits_nar_byte _) W317 3 rfl (Nat.le_of_ble_eq_true rfl)
  have f318 := f309.wr W317
  have f319 := f310.wr W317
  have f320 := f311.other W317 (Or.inl (Ne.symm ne_b272_r286))
  have f321 := f312.other W317 (Or.inl (Ne.symm ne_b272_r286))
  have f322 := f313.other W317 (Ne.symm ne_b272_x286)
  have f323 := f314.wr W317
  have N324 := Fr.snoc X317 N315 q_b272
  have OLD324 := OLD315.wr W317 q_b272
  have K324 := K315.wr W317 (Or.inr sz_b272)
  have Z324 := Nat.le_trans Z315 (Nat.le_of_eq W317.size.symm)
  have hk325 := Nat.le_trans hk316 (Nat.le_of_eq W317.size.symm)
  refine ogoW st317 ?_
  show OwnEndsW _ _ _ _ _ _ _ (T317.setTop (mkF m 139 #[.val (.int p0), .val (.int p1), .val (.int (4 : Int32)), .val (.int (p1.toInt8.toInt32)), .val (.int (((p1.toUInt32 >>> ((8 : Int32) &&& 31).toUInt32).toInt32).toInt8.toInt32)), .val (.int (((p1.toUInt32 >>> ((16 : Int32) &&& 31).toUInt32).toInt32).toInt8.toInt32)), .val (.int (((p1.toUInt32 >>> ((24 : Int32) &&& 31).toUInt32).toInt32).toInt8.toInt32)), .val (.ref b272), .val (.ref r286), .unset, .unset] []))
  refine ogoW (fun t k => XS.aload X317.here hx rfl (hb hby at_139) rfl rfl k) ?_
  show OwnEndsW _ _ _ _ _ _ _ (T317.setTop (mkF m 141 #[.val (.int p0), .val (.int p1), .val (.int (4 : Int32)), .val (.int (p1.toInt8.toInt32)), .val (.int (((p1.toUInt32 >>> ((8 : Int32) &&& 31).toUInt32).toInt32).toInt8.toInt32)), .val (.int (((p1.toUInt32 >>> ((16 : Int32) &&& 31).toUInt32).toInt32).toInt8.toInt32)), .val (.int (((p1.toUInt32 >>> ((24 : Int32) &&& 31).toUInt32).toInt32).toInt8.toInt32)), .val (.ref b272), .val (.ref r286), .unset, .unset] [(.ref r286)]))
  obtain ⟨cq326, kq326, q326a, q326b, q326c⟩ := isOf hZ e317 f319
  obtain ⟨v326, _, ⟨T326, L326, k326, n326⟩, -, X326, ⟨Lc326, hQ326, l326, y326, z326⟩, st326⟩ := X317.virtualBack hx (y := (⟨"com/example/once_guard/onceguard/ClaimResult", "state", "()Lcom/example/once_guard/onceguard/ClaimResult$State;"⟩ : MethodName)) (z := (⟨"com/example/once_guard/onceguard/ClaimResult", "state", "()Lcom/example/once_guard/onceguard/ClaimResult$State;"⟩ : MethodName)) hown (mvT hZ (hw _ (List.mem_of_getElem? (i := 45) rfl))) (mvT hZ (hw _ (List.mem_of_getElem? (i := 46) rfl))) (notFace_of_selects (args := #[]) (mvT hZ (hw _ (List.mem_of_getElem? (i := 48) rfl)))) (mvT hZ (hw _ (List.mem_of_getElem? (i := 48) rfl))) (mvT hZ (hw _ (List.mem_of_getElem? (i := 47) rfl))) (by decide) (backOf (W := 0) (rm3 l Z a0 hw [] r286 w_IN_PROGRESS h317 n0 Z324 f320) hZ (hw _ (List.mem_of_getElem? (i := 49) rfl)) (hw _ (List.mem_of_getElem? (i := 4) rfl)) (by decide) (by decide)) q326a q326c (g := (mkF m 141 #[.val (.int p0), .val (.int p1), .val (.int (4 : Int32)), .val (.int (p1.toInt8.toInt32)), .val (.int (((p1.toUInt32 >>> ((8 : Int32) &&& 31).toUInt32).toInt32).toInt8.toInt32)), .val (.int (((p1.toUInt32 >>> ((16 : Int32) &&& 31).toUInt32).toInt32).toInt8.toInt32)), .val (.int (((p1.toUInt32 >>> ((24 : Int32) &&& 31).toUInt32).toInt32).toInt8.toInt32)), .val (.ref b272), .val (.ref r286), .unset, .unset] [(.ref r286)])) rfl (by rw [hml]; rfl) (Steps.refl _) (argsL := []) (rest := []) (lenOf pd___Lcom_example_once_guard_onceguard_ClaimResult_State_ rfl) rfl (by show 2 * 0 + _ ≤ _; exact Nat.le_of_eq rfl) (hb hby at_141) (fun _ _ => ⟨rfl, e317, (by decide : 5 + 0 ≤ _), (by decide : 136 + 0 ≤ _)⟩)
  dsimp only [Pt.U, Pt.locs, Pt.cells, Pt.slots] at X326 l326 y326 z326 st326 hQ326
  subst l326 y326 z326
  obtain ⟨rfl, N326q, e326⟩ := hQ326
  have N326 := Fr.app N324 N326q
  refine ogoW (fun t k => st326.trans k) ?_
  show OwnEndsW _ _ _ _ _ _ _ (T326.setTop (mkF m 144 #[.val (.int p0), .val (.int p1), .val (.int (4 : Int32)), .val (.int (p1.toInt8.toInt32)), .val (.int (((p1.toUInt32 >>> ((8 : Int32) &&& 31).toUInt32).toInt32).toInt8.toInt32)), .val (.int (((p1.toUInt32 >>> ((16 : Int32) &&& 31).toUInt32).toInt32).toInt8.toInt32)), .val (.int (((p1.toUInt32 >>> ((24 : Int32) &&& 31).toUInt32).toInt32).toInt8.toInt32)), .val (.ref b272), .val (.ref r286), .unset, .unset] [(.ref w_IN_PROGRESS)]))
  obtain ⟨T327, X327, e327, st327⟩ := getS2 X326 hx hZ hown (host := "") (Or.inl (hw _ (List.mem_of_getElem? (i := 50) rfl))) Via.refl e326 (S_IN_PROGRESS.ext OLD324.2) (g := (mkF m 144 #[.val (.int p0), .val (.int p1), .val (.int (4 : Int32)), .val (.int (p1.toInt8.toInt32)), .val (.int (((p1.toUInt32 >>> ((8 : Int32) &&& 31).toUInt32).toInt32).toInt8.toInt32)), .val (.int (((p1.toUInt32 >>> ((16 : Int32) &&& 31).toUInt32).toInt32).toInt8.toInt32)), .val (.int (((p1.toUInt32 >>> ((24 : Int32) &&& 31).toUInt32).toInt32).toInt8.toInt32)), .val (.ref b272), .val (.ref r286), .unset, .unset] [(.ref w_IN_PROGRESS)])) rfl (hb hby at_144)
  refine ogoW st327 ?_
  show OwnEndsW _ _ _ _ _ _ _ (T327.setTop (mkF m 147 #[.val (.int p0), .val (.int p1), .val (.int (4 : Int32)), .val (.int (p1.toInt8.toInt32)), .val (.int (((p1.toUInt32 >>> ((8 : Int32) &&& 31).toUInt32).toInt32).toInt8.toInt32)), .val (.int (((p1.toUInt32 >>> ((16 : Int32) &&& 31).toUInt32).toInt32).toInt8.toInt32)), .val (.int (((p1.toUInt32 >>> ((24 : Int32) &&& 31).toUInt32).toInt32).toInt8.toInt32)), .val (.ref b272), .val (.ref r286), .unset, .unset] [(.ref w_IN_PROGRESS), (.ref w_IN_PROGRESS)]))
  refine ogoW (fun t k => Jvm.RoadKit.acmp (g := (mkF m 147 #[.val (.int p0), .val (.int p1), .val (.int (4 : Int32)), .val (.int (p1.toInt8.toInt32)), .val (.int (((p1.toUInt32 >>> ((8 : Int32) &&& 31).toUInt32).toInt32).toInt8.toInt32)), .val (.int (((p1.toUInt32 >>> ((16 : Int32) &&& 31).toUInt32).toInt32).toInt8.toInt32)), .val (.int (((p1.toUInt32 >>> ((24 : Int32) &&& 31).toUInt32).toInt32).toInt8.toInt32)), .val (.ref b272), .val (.ref r286), .unset, .unset] [(.ref w_IN_PROGRESS), (.ref w_IN_PROGRESS)])) X327 hx rfl rfl rfl (pc0 := 147) (pc' := 152) (same := true) rfl (hb hby at_147) rfl (decide_eq_true (congrArg Value.ref rfl)) (by decide) (by decide) k) ?_
  show OwnEndsW _ _ _ _ _ _ _ (T327.setTop (mkF m 152 #[.val (.int p0), .val (.int p1), .val (.int (4 : Int32)), .val (.int (p1.toInt8.toInt32)), .val (.int (((p1.toUInt32 >>> ((8 : Int32) &&& 31).toUInt32).toInt32).toInt8.toInt32)), .val (.int (((p1.toUInt32 >>> ((16 : Int32) &&& 31).toUInt32).toInt32).toInt8.toInt32)), .val (.int (((p1.toUInt32 >>> ((24 : Int32) &&& 31).toUInt32).toInt32).toInt8.toInt32)), .val (.ref b272), .val (.ref r286), .unset, .unset] []))
  refine ogoW (fun t k => XS.aload X327.here hx rfl (hb hby at_152) rfl rfl k) ?_
  show OwnEndsW _ _ _ _ _ _ _ (T327.setTop (mkF m 154 #[.val (.int p0), .val (.int p1), .val (.int (4 : Int32)), .val (.int (p1.toInt8.toInt32)), .val (.int (((p1.toUInt32 >>> ((8 : Int32) &&& 31).toUInt32).toInt32).toInt8.toInt32)), .val (.int (((p1.toUInt32 >>> ((16 : Int32) &&& 31).toUInt32).toInt32).toInt8.toInt32)), .val (.int (((p1.toUInt32 >>> ((24 : Int32) &&& 31).toUInt32).toInt32).toInt8.toInt32)), .val (.ref b272), .val (.ref r286), .unset, .unset] [(.ref r286)]))
  obtain ⟨cq328, kq328, q328a, q328b, q328c⟩ := isOf hZ e327 f319
  obtain ⟨v328, _, ⟨T328, L328, k328, n328⟩, -, X328, ⟨Lc328, hQ328, l328, y328, z328⟩, st328⟩ := X327.virtualBack hx (y := (⟨"com/example/once_guard/onceguard/ClaimResult", "payloadDigest", "()[B"⟩ : MethodName)) (z := (⟨"com/example/once_guard/onceguard/ClaimResult", "payloadDigest", "()[B"⟩ : MethodName)) hown (mvT hZ (hw _ (List.mem_of_getElem? (i := 51) rfl))) (mvT hZ (hw _ (List.mem_of_getElem? (i := 52) rfl))) (notFace_of_selects (args := #[]) (mvT hZ (hw _ (List.mem_of_getElem? (i := 54) rfl)))) (mvT hZ (hw _ (List.mem_of_getElem? (i := 54) rfl))) (mvT hZ (hw _ (List.mem_of_getElem? (i := 53) rfl))) (by decide) (backOf (W := 0) (rm4 l Z a0 hw [] r286 x286 (4 : Int32) [(.int (p1.toInt8.toInt32)), (.int (((p1.toUInt32 >>> ((8 : Int32) &&& 31).toUInt32).toInt32).toInt8.toInt32)), (.int (((p1.toUInt32 >>> ((16 : Int32) &&& 31).toUInt32).toInt32).toInt8.toInt32)), (.int (((p1.toUInt32 >>> ((24 : Int32) &&& 31).toUInt32).toInt32).toInt8.toInt32))] w_IN_PROGRESS w_CLAIMED h317 n0 Z324 OLD324 S_CLAIMED f320 f321 f322 f323 (by decide) (Fld.ne F_ordinal_IN_PROGRESS F_ordinal_CLAIMED (by simp))) hZ (hw _ (List.mem_of_getElem? (i := 55) rfl)) (hw _ (List.mem_of_getElem? (i := 4) rfl)) (by decide) (by decide)) q328a q328c (g := (mkF m 154 #[.val (.int p0), .val (.int p1), .val (.int (4 : Int32)), .val (.int (p1.toInt8.toInt32)), .val (.int (((p1.toUInt32 >>> ((8 : Int32) &&& 31).toUInt32).toInt32).toInt8.toInt32)), .val (.int (((p1.toUInt32 >>> ((16 : Int32) &&& 31).toUInt32).toInt32).toInt8.toInt32)), .val (.int (((p1.toUInt32 >>> ((24 : Int32) &&& 31).toUInt32).toInt32).toInt8.toInt32)), .val (.ref b272), .val (.ref r286), .unset, .unset] [(.ref r286)])) rfl (by rw [hml]; rfl) (Steps.refl _) (argsL := []) (rest := []) (lenOf pd____B rfl) rfl (by show 2 * 0 + _ ≤ _; exact Nat.le_of_eq rfl) (hb hby at_154) (fun _ _ => ⟨rfl, e327, (by decide : 5 + 1 ≤ _), (by decide : 136 + 4 ≤ _)⟩)
  dsimp only [Pt.U, Pt.locs, Pt.cells, Pt.slots] at X328 l328 y328 z328 st328 hQ328
  subst l328 y328 z328
  obtain ⟨r328, rfl, Sq328, N328q, Kq328, Vq328, Eq328⟩ := hQ328
  have N328 := Fr.app N326 N328q
  have ne_b272_r328 : b272 ≠ r328 := Nat.ne_of_lt (Nat.lt_of_lt_of_le (V317).lt Sq328)
  have ne_r286_r328 : r286 ≠ r328 := Nat.ne_of_lt (Nat.lt_of_lt_of_le (f319).lt Sq328)
  have ne_x286_r328 : x286 ≠ r328 := Nat.ne_of_lt (Nat.lt_of_lt_of_le (f322).lt Sq328)
  have q_r328 : n0 ≤ r328 := Nat.le_trans Z324 Sq328
  have sz_r328 : h0.size ≤ r328 := Nat.le_trans K324.1 Sq328
  have f329 := V317.keep Kq328 nin0
  have f330 := f318.keep Kq328
  have f331 := f319.keep Kq328
  have f332 := f320.keep Kq328 nin0
  have f333 := f321.keep Kq328 nin0
  have f334 := f322.keep Kq328 nin0
  have f335 := f323.keep Kq328
  have OLD336 := OLD324.keep Kq328 all0
  have K336 := K324.trans Kq328 all0
  have Z336 := Nat.le_trans Z324 Kq328.1
  have hk337 := Nat.le_trans hk325 Kq328.1
  refine ogoW (fun t k => st328.trans k) ?_
  show OwnEndsW _ _ _ _ _ _ _ (T328.setTop (mkF m 157 #[.val (.int p0), .val (.int p1), .val (.int (4 : Int32)), .val (.int (p1.toInt8.toInt32)), .val (.int (((p1.toUInt32 >>> ((8 : Int32) &&& 31).toUInt32).toInt32).toInt8.toInt32)), .val (.int (((p1.toUInt32 >>> ((16 : Int32) &&& 31).toUInt32).toInt32).toInt8.toInt32)), .val (.int (((p1.toUInt32 >>> ((24 : Int32) &&& 31).toUInt32).toInt32).toInt8.toInt32)), .val (.ref b272), .val (.ref r286), .unset, .unset] [(.ref r328)]))
  refine ogoW (fun t k => XS.astore X328.here hx rfl (hb hby at_157) rfl rfl (l' := #[.val (.int p0), .val (.int p1), .val (.int (4 : Int32)), .val (.int (p1.toInt8.toInt32)), .val (.int (((p1.toUInt32 >>> ((8 : Int32) &&& 31).toUInt32).toInt32).toInt8.toInt32)), .val (.int (((p1.toUInt32 >>> ((16 : Int32) &&& 31).toUInt32).toInt32).toInt8.toInt32)), .val (.int (((p1.toUInt32 >>> ((24 : Int32) &&& 31).toUInt32).toInt32).toInt8.toInt32)), .val (.ref b272), .val (.ref r286), .val (.ref r328), .unset]) rfl k) ?_
  show OwnEndsW _ _ _ _ _ _ _ (T328.setTop (mkF m 159 #[.val (.int p0), .val (.int p1), .val (.int (4 : Int32)), .val (.int (p1.toInt8.toInt32)), .val (.int (((p1.toUInt32 >>> ((8 : Int32) &&& 31).toUInt32).toInt32).toInt8.toInt32)), .val (.int (((p1.toUInt32 >>> ((16 : Int32) &&& 31).toUInt32).toInt32).toInt8.toInt32)), .val (.int (((p1.toUInt32 >>> ((24 : Int32) &&& 31).toUInt32).toInt32).toInt8.toInt32)), .val (.ref b272), .val (.ref r286), .val (.ref r328), .unset] []))
  refine ogoW (fun t k => XS.aload X328.here hx rfl (hb hby at_159) rfl rfl k) ?_
  show OwnEndsW _ _ _ _ _ _ _ (T328.setTop (mkF m 161 #[.val (.int p0), .val (.int p1), .val (.int (4 : Int32)), .val (.int (p1.toInt8.toInt32)), .val (.int (((p1.toUInt32 >>> ((8 : Int32) &&& 31).toUInt32).toInt32).toInt8.toInt32)), .val (.int (((p1.toUInt32 >>> ((16 : Int32) &&& 31).toUInt32).toInt32).toInt8.toInt32)), .val (.int (((p1.toUInt32 >>> ((24 : Int32) &&& 31).toUInt32).toInt32).toInt8.toInt32)), .val (.ref b272), .val (.ref r286), .val (.ref r328), .unset] [(.ref r328)]))
  refine ogoW (fun t k => XS.iloadN X328.here hx rfl (hb hby at_161) rfl k) ?_
  show OwnEndsW _ _ _ _ _ _ _ (T328.setTop (mkF m 162 #[.val (.int p0), .val (.int p1), .val (.int (4 : Int32)), .val (.int (p1.toInt8.toInt32)), .val (.int (((p1.toUInt32 >>> ((8 : Int32) &&& 31).toUInt32).toInt32).toInt8.toInt32)), .val (.int (((p1.toUInt32 >>> ((16 : Int32) &&& 31).toUInt32).toInt32).toInt8.toInt32)), .val (.int (((p1.toUInt32 >>> ((24 : Int32) &&& 31).toUInt32).toInt32).toInt8.toInt32)), .val (.ref b272), .val (.ref r286), .val (.ref r328), .unset] [(.int (4 : Int32)), (.ref r328)]))
  refine ogoW (fun t k => XS.iloadN X328.here hx rfl (hb hby at_162) rfl k) ?_
  show OwnEndsW _ _ _ _ _ _ _ (T328.setTop (mkF m 163 #[.val (.int p0), .val (.int p1), .val (.int (4 : Int32)), .val (.int (p1.toInt8.toInt32)), .val (.int (((p1.toUInt32 >>> ((8 : Int32) &&& 31).toUInt32).toInt32).toInt8.toInt32)), .val (.int (((p1.toUInt32 >>> ((16 : Int32) &&& 31).toUInt32).toInt32).toInt8.toInt32)), .val (.int (((p1.toUInt32 >>> ((24 : Int32) &&& 31).toUInt32).toInt32).toInt8.toInt32)), .val (.ref b272), .val (.ref r286), .val (.ref r328), .unset] [(.int (p1.toInt8.toInt32)), (.int (4 : Int32)), (.ref r328)]))
  refine ogoW (fun t k => XS.iload X328.here hx rfl (hb hby at_163) rfl k) ?_
  show OwnEndsW _ _ _ _ _ _ _ (T328.setTop (mkF m 165 #[.val (.int p0), .val (.int p1), .val (.int (4 : Int32)), .val (.int (p1.toInt8.toInt32)), .val (.int (((p1.toUInt32 >>> ((8 : Int32) &&& 31).toUInt32).toInt32).toInt8.toInt32)), .val (.int (((p1.toUInt32 >>> ((16 : Int32) &&& 31).toUInt32).toInt32).toInt8.toInt32)), .val (.int (((p1.toUInt32 >>> ((24 : Int32) &&& 31).toUInt32).toInt32).toInt8.toInt32)), .val (.ref b272), .val (.ref r286), .val (.ref r328), .unset] [(.int (((p1.toUInt32 >>> ((8 : Int32) &&& 31).toUInt32).toInt32).toInt8.toInt32)), (.int (p1.toInt8.toInt32)), (.int (4 : Int32)), (.ref r328)]))
  refine ogoW (fun t k => XS.iload X328.here hx rfl (hb hby at_165) rfl k) ?_
  show OwnEndsW _ _ _ _ _ _ _ (T328.setTop (mkF m 167 #[.val (.int p0), .val (.int p1), .val (.int (4 : Int32)), .val (.int (p1.toInt8.toInt32)), .val (.int (((p1.toUInt32 >>> ((8 : Int32) &&& 31).toUInt32).toInt32).toInt8.toInt32)), .val (.int (((p1.toUInt32 >>> ((16 : Int32) &&& 31).toUInt32).toInt32).toInt8.toInt32)), .val (.int (((p1.toUInt32 >>> ((24 : Int32) &&& 31).toUInt32).toInt32).toInt8.toInt32)), .val (.ref b272), .val (.ref r286), .val (.ref r328), .unset] [(.int (((p1.toUInt32 >>> ((16 : Int32) &&& 31).toUInt32).toInt32).toInt8.toInt32)), (.int (((p1.toUInt32 >>> ((8 : Int32) &&& 31).toUInt32).toInt32).toInt8.toInt32)), (.int (p1.toInt8.toInt32)), (.int (4 : Int32)), (.ref r328)]))
  refine ogoW (fun t k => XS.iload X328.here hx rfl (hb hby at_167) rfl k) ?_
  show OwnEndsW _ _ _ _ _ _ _ (T328.setTop (mkF m 169 #[.val (.int p0), .val (.int p1), .val (.int (4 : Int32)), .val (.int (p1.toInt8.toInt32)), .val (.int (((p1.toUInt32 >>> ((8 : Int32) &&& 31).toUInt32).toInt32).toInt8.toInt32)), .val (.int (((p1.toUInt32 >>> ((16 : Int32) &&& 31).toUInt32).toInt32).toInt8.toInt32)), .val (.int (((p1.toUInt32 >>> ((24 : Int32) &&& 31).toUInt32).toInt32).toInt8.toInt32)), .val (.ref b272), .val (.ref r286), .val (.ref r328), .unset] [(.int (((p1.toUInt32 >>> ((24 : Int32) &&& 31).toUInt32).toInt32).toInt8.toInt32)), (.int (((p1.toUInt32 >>> ((16 : Int32) &&& 31).toUInt32).toInt32).toInt8.toInt32)), (.int (((p1.toUInt32 >>> ((8 : Int32) &&& 31).toUInt32).toInt32).toInt8.toInt32)), (.int (p1.toInt8.toInt32)), (.int (4 : Int32)), (.ref r328)]))
  obtain ⟨v338, _, ⟨T338, L338, k338, n338⟩, -, X338, ⟨Lc338, hQ338, l338, y338, z338⟩, st338⟩ := Jvm.LawKit.callS X328 hx (y := (⟨"com/example/once_guard/onceguard/ClaimResultInProgressPinLaw", "same", "([BIBBBB)Z"⟩ : MethodName)) hown (mvT hZ (hw _ (List.mem_of_getElem? (i := 58) rfl))) (mvT hZ (hw _ (List.mem_of_getElem? (i := 59) rfl))) (mvT hZ (hw _ (List.mem_of_getElem? (i := 60) rfl))) (mvT hZ (hw _ (List.mem_of_getElem? (i := 61) rfl))) (by decide) (backOf (W := 0) (rm64 l Z a0 hw [] r328 (p1.toInt8.toInt32) (((p1.toUInt32 >>> ((8 : Int32) &&& 31).toUInt32).toInt32).toInt8.toInt32) (((p1.toUInt32 >>> ((16 : Int32) &&& 31).toUInt32).toInt32).toInt8.toInt32) (((p1.toUInt32 >>> ((24 : Int32) &&& 31).toUInt32).toInt32).toInt8.toInt32) T328.heap n0 Z336 Vq328) hZ (hw _ (List.mem_of_getElem? (i := 61) rfl)) (hw _ (List.mem_of_getElem? (i := 60) rfl)) (by decide) (by decide)) (g := (mkF m 169 #[.val (.int p0), .val (.int p1), .val (.int (4 : Int32)), .val (.int (p1.toInt8.toInt32)), .val (.int (((p1.toUInt32 >>> ((8 : Int32) &&& 31).toUInt32).toInt32).toInt8.toInt32)), .val (.int (((p1.toUInt32 >>> ((16 : Int32) &&& 31).toUInt32).toInt32).toInt8.toInt32)), .val (.int (((p1.toUInt32 >>> ((24 : Int32) &&& 31).toUInt32).toInt32).toInt8.toInt32)), .val (.ref b272), .val (.ref r286), .val (.ref r328), .unset] [(.int (((p1.toUInt32 >>> ((24 : Int32) &&& 31).toUInt32).toInt32).toInt8.toInt32)), (.int (((p1.toUInt32 >>> ((16 : Int32) &&& 31).toUInt32).toInt32).toInt8.toInt32)), (.int (((p1.toUInt32 >>> ((8 : Int32) &&& 31).toUInt32).toInt32).toInt8.toInt32)), (.int (p1.toInt8.toInt32)), (.int (4 : Int32)), (.ref r328)])) rfl (by rw [hml]; rfl) (argsL := [(.ref r328), (.int (4 : Int32)), (.int (p1.toInt8.toInt32)), (.int (((p1.toUInt32 >>> ((8 : Int32) &&& 31).toUInt32).toInt32).toInt8.toInt32)), (.int (((p1.toUInt32 >>> ((16 : Int32) &&& 31).toUInt32).toInt32).toInt8.toInt32)), (.int (((p1.toUInt32 >>> ((24 : Int32) &&& 31).toUInt32).toInt32).toInt8.toInt32))]) (rest := []) (lenOf pd___BIBBBB_Z rfl) rfl (by show 2 * 0 + _ ≤ _; exact Nat.le_of_eq rfl) (hb hby at_169) (fun _ _ => ⟨rfl, rfl, (by decide : 6 + 0 ≤ _), (by decide : 140 + 0 ≤ _)⟩)
  dsimp only [Pt.U, Pt.locs, Pt.cells, Pt.slots] at X338 l338 y338 z338 st338 hQ338
  subst l338 y338 z338
  obtain ⟨rfl, N338q, e338⟩ := hQ338
  have N338 := Fr.app N328 N338q
  refine ogoW (fun t k => st338 t k) ?_
  show OwnEndsW _ _ _ _ _ _ _ (T338.setTop (mkF m 172 #[.val (.int p0), .val (.int p1), .val (.int (4 : Int32)), .val (.int (p1.toInt8.toInt32)), .val (.int (((p1.toUInt32 >>> ((8 : Int32) &&& 31).toUInt32).toInt32).toInt8.toInt32)), .val (.int (((p1.toUInt32 >>> ((16 : Int32) &&& 31).toUInt32).toInt32).toInt8.toInt32)), .val (.int (((p1.toUInt32 >>> ((24 : Int32) &&& 31).toUInt32).toInt32).toInt8.toInt32)), .val (.ref b272), .val (.ref r286), .val (.ref r328), .unset] [(.int (1 : Int32))]))
  refine ogoW (fun t k => XS.ifYes X338.here hx rfl (pc0 := 172) (pc' := 177) rfl (hb hby at_172) rfl ((if0 _ _).trans (feq (by decide : ¬ ((1 : Int32) = (0 : Int32)))).2) (by decide) (by decide) k) ?_
  show OwnEndsW _ _ _ _ _ _ _ (T338.setTop (mkF m 177 #[.val (.int p0), .val (.int p1), .val (.int (4 : Int32)), .val (.int (p1.toInt8.toInt32)), .val (.int (((p1.toUInt32 >>> ((8 : Int32) &&& 31).toUInt32).toInt32).toInt8.toInt32)), .val (.int (((p1.toUInt32 >>> ((16 : Int32) &&& 31).toUInt32).toInt32).toInt8.toInt32)), .val (.int (((p1.toUInt32 >>> ((24 : Int32) &&& 31).toUInt32).toInt32).toInt8.toInt32)), .val (.ref b272), .val (.ref r286), .val (.ref r328), .unset] []))
  refine ogoW (fun t k => XS.iloadN X338.here hx rfl (hb hby at_177) rfl k) ?_
  show OwnEndsW _ _ _ _ _ _ _ (T338.setTop (mkF m 178 #[.val (.int p0), .val (.int p1), .val (.int (4 : Int32)), .val (.int (p1.toInt8.toInt32)), .val (.int (((p1.toUInt32 >>> ((8 : Int32) &&& 31).toUInt32).toInt32).toInt8.toInt32)), .val (.int (((p1.toUInt32 >>> ((16 : Int32) &&& 31).toUInt32).toInt32).toInt8.toInt32)), .val (.int (((p1.toUInt32 >>> ((24 : Int32) &&& 31).toUInt32).toInt32).toInt8.toInt32)), .val (.ref b272), .val (.ref r286), .val (.ref r328), .unset] [(.int (4 : Int32))]))
  refine ogoW (fun t k => XS.ifNo X338.here hx rfl (hb hby at_178) rfl ((if0 _ _).trans (tlt (by decide : (0 : Int32) < (4 : Int32))).2.2.2) k) ?_
  show OwnEndsW _ _ _ _ _ _ _ (T338.setTop (mkF m 181 #[.val (.int p0), .val (.int p1), .val (.int (4 : Int32)), .val (.int (p1.toInt8.toInt32)), .val (.int (((p1.toUInt32 >>> ((8 : Int32) &&& 31).toUInt32).toInt32).toInt8.toInt32)), .val (.int (((p1.toUInt32 >>> ((16 : Int32) &&& 31).toUInt32).toInt32).toInt8.toInt32)), .val (.int (((p1.toUInt32 >>> ((24 : Int32) &&& 31).toUInt32).toInt32).toInt8.toInt32)), .val (.ref b272), .val (.ref r286), .val (.ref r328), .unset] []))
  refine ogoW (fun t k => XS.aload X338.here hx rfl (hb hby at_181) rfl rfl k) ?_
  show OwnEndsW _ _ _ _ _ _ _ (T338.setTop (mkF m 183 #[.val (.int p0), .val (.int p1), .val (.int (4 : Int32)), .val (.int (p1.toInt8.toInt32)), .val (.int (((p1.toUInt32 >>> ((8 : Int32) &&& 31).toUInt32).toInt32).toInt8.toInt32)), .val (.int (((p1.toUInt32 >>> ((16 : Int32) &&& 31).toUInt32).toInt32).toInt8.toInt32)), .val (.int (((p1.toUInt32 >>> ((24 : Int32) &&& 31).toUInt32).toInt32).toInt8.toInt32)), .val (.ref b272), .val (.ref r286), .val (.ref r328), .unset] [(.ref r328)]))
  refine ogoW (fun t k => XS.iconst X338.here hx rfl (hb hby at_183) k) ?_
  show OwnEndsW _ _ _ _ _ _ _ (T338.setTop (mkF m 184 #[.val (.int p0), .val (.int p1), .val (.int (4 : Int32)), .val (.int (p1.toInt8.toInt32)), .val (.int (((p1.toUInt32 >>> ((8 : Int32) &&& 31).toUInt32).toInt32).toInt8.toInt32)), .val (.int (((p1.toUInt32 >>> ((16 : Int32) &&& 31).toUInt32).toInt32).toInt8.toInt32)), .val (.int (((p1.toUInt32 >>> ((24 : Int32) &&& 31).toUInt32).toInt32).toInt8.toInt32)), .val (.ref b272), .val (.ref r286), .val (.ref r328), .unset] [(.int (0 : Int32)), (.ref r328)]))
  refine ogoW (fun t k => XS.iloadN X338.here hx rfl (hb hby at_184) rfl k) ?_
  show OwnEndsW _ _ _ _ _ _ _ (T338.setTop (mkF m 185 #[.val (.int p0), .val (.int p1), .val (.int (4 : Int32)), .val (.int (p1.toInt8.toInt32)), .val (.int (((p1.toUInt32 >>> ((8 : Int32) &&& 31).toUInt32).toInt32).toInt8.toInt32)), .val (.int (((p1.toUInt32 >>> ((16 : Int32) &&& 31).toUInt32).toInt32).toInt8.toInt32)), .val (.int (((p1.toUInt32 >>> ((24 : Int32) &&& 31).toUInt32).toInt32).toInt8.toInt32)), .val (.ref b272), .val (.ref r286), .val (.ref r328), .unset] [(.int (p1.toInt8.toInt32)), (.int (0 : Int32)), (.ref r328)]))
  refine ogoW (fun t k => XS.iconst X338.here hx rfl (hb hby at_185) k) ?_
  show OwnEndsW _ _ _ _ _ _ _ (T338.setTop (mkF m 186 #[.val (.int p0), .val (.int p1), .val (.int (4 : Int32)), .val (.int (p1.toInt8.toInt32)), .val (.int (((p1.toUInt32 >>> ((8 : Int32) &&& 31).toUInt32).toInt32).toInt8.toInt32)), .val (.int (((p1.toUInt32 >>> ((16 : Int32) &&& 31).toUInt32).toInt32).toInt8.toInt32)), .val (.int (((p1.toUInt32 >>> ((24 : Int32) &&& 31).toUInt32).toInt32).toInt8.toInt32)), .val (.ref b272), .val (.ref r286), .val (.ref r328), .unset] [(.int (-1 : Int32)), (.int (p1.toInt8.toInt32)), (.int (0 : Int32)), (.ref r328)]))
  refine ogoW (fun t k => XS.ixor X338.here hx rfl (hb hby at_186) rfl k) ?_
  show OwnEndsW _ _ _ _ _ _ _ (T338.setTop (mkF m 187 #[.val (.int p0), .val (.int p1), .val (.int (4 : Int32)), .val (.int (p1.toInt8.toInt32)), .val (.int (((p1.toUInt32 >>> ((8 : Int32) &&& 31).toUInt32).toInt32).toInt8.toInt32)), .val (.int (((p1.toUInt32 >>> ((16 : Int32) &&& 31).toUInt32).toInt32).toInt8.toInt32)), .val (.int (((p1.toUInt32 >>> ((24 : Int32) &&& 31).toUInt32).toInt32).toInt8.toInt32)), .val (.ref b272), .val (.ref r286), .val (.ref r328), .unset] [(.int ((p1.toInt8.toInt32) ^^^ (-1 : Int32))), (.int (0 : Int32)), (.ref r328)]))
  refine ogoW (fun t k => XS.i2b X338.here hx rfl (hb hby at_187) rfl k) ?_
  show OwnEndsW _ _ _ _ _ _ _ (T338.setTop (mkF m 188 #[.val (.int p0), .val (.int p1), .val (.int (4 : Int32)), .val (.int (p1.toInt8.toInt32)), .val (.int (((p1.toUInt32 >>> ((8 : Int32) &&& 31).toUInt32).toInt32).toInt8.toInt32)), .val (.int (((p1.toUInt32 >>> ((16 : Int32) &&& 31).toUInt32).toInt32).toInt8.toInt32)), .val (.int (((p1.toUInt32 >>> ((24 : Int32) &&& 31).toUInt32).toInt32).toInt8.toInt32)), .val (.ref b272), .val (.ref r286), .val (.ref r328), .unset] [(.int (((p1.toInt8.toInt32) ^^^ (-1 : Int32)).toInt8.toInt32)), (.int (0 : Int32)), (.ref r328)]))
  obtain ⟨ak339, cl339, Ar339, Aq339, As339, An339, Ah339, Ag339⟩ := id Vq328
  obtain ⟨T339, h339, X339, e339, W339, st339⟩ := stB X338 hx hZ e338 Ar339 (j := (0 : Int32)) (inb_of As339 ⟨by decide, by decide⟩) (g := (mkF m 188 #[.val (.int p0), .val (.int p1), .val (.int (4 : Int32)), .val (.int (p1.toInt8.toInt32)), .val (.int (((p1.toUInt32 >>> ((8 : Int32) &&& 31).toUInt32).toInt32).toInt8.toInt32)), .val (.int (((p1.toUInt32 >>> ((16 : Int32) &&& 31).toUInt32).toInt32).toInt8.toInt32)), .val (.int (((p1.toUInt32 >>> ((24 : Int32) &&& 31).toUInt32).toInt32).toInt8.toInt32)), .val (.ref b272), .val (.ref r286), .val (.ref r328), .unset] [(.int (((p1.toInt8.toInt32) ^^^ (-1 : Int32)).toInt8.toInt32)), (.int (0 : Int32)), (.ref r328)])) rfl rfl (hb hby at_188)
  rw [own_narb] at W339
  have V339 : Arv Z h339 r328 ak339 .byte (4 : Int32) [(.int (((p1.toInt8.toInt32) ^^^ (-1 : Int32)).toInt8.toInt32)), (.int (((p1.toUInt32 >>> ((8 : Int32) &&& 31).toUInt32).toInt32).toInt8.toInt32)), (.int (((p1.toUInt32 >>> ((16 : Int32) &&& 31).toUInt32).toInt32).toInt8.toInt32)), (.int (((p1.toUInt32 >>> ((24 : Int32) &&& 31).toUInt32).toInt32).toInt8.toInt32))] (.int (0 : Int32)) := Arv.set Ar339 Aq339 As339 An339 Ah339 Ag339 (fits_nar_byte _) W339 0 rfl (Nat.le_of_ble_eq_true rfl)
  have f340 := f329.other W339 ne_b272_r328
  have f341 := f330.wr W339
  have f342 := f331.wr W339
  have f343 := f332.other W339 (Or.inl ne_r286_r328)
  have f344 := f333.other W339 (Or.inl ne_r286_r328)
  have f345 := f334.other W339 ne_x286_r328
  have f346 := f335.wr W339
  have f347 := Eq328.wr W339
  have N348 := Fr.snoc X339 N338 q_r328
  have OLD348 := OLD336.wr W339 q_r328
  have K348 := K336.wr W339 (Or.inr sz_r328)
  have Z348 := Nat.le_trans Z336 (Nat.le_of_eq W339.size.symm)
  have hk349 := Nat.le_trans hk337 (Nat.le_of_eq W339.size.symm)
  refine ogoW st339 ?_
  show OwnEndsW _ _ _ _ _ _ _ (T339.setTop (mkF m 189 #[.val (.int p0), .val (.int p1), .val (.int (4 : Int32)), .val (.int (p1.toInt8.toInt32)), .val (.int (((p1.toUInt32 >>> ((8 : Int32) &&& 31).toUInt32).toInt32).toInt8.toInt32)), .val (.int (((p1.toUInt32 >>> ((16 : Int32) &&& 31).toUInt32).toInt32).toInt8.toInt32)), .val (.int (((p1.toUInt32 >>> ((24 : Int32) &&& 31).toUInt32).toInt32).toInt8.toInt32)), .val (.ref b272), .val (.ref r286), .val (.ref r328), .unset] []))
  refine ogoW (fun t k => XS.iloadN X339.here hx rfl (hb hby at_189) rfl k) ?_
  show OwnEndsW _ _ _ _ _ _ _ (T339.setTop (mkF m 190 #[.val (.int p0), .val (.int p1), .val (.int (4 : Int32)), .val (.int (p1.toInt8.toInt32)), .val (.int (((p1.toUInt32 >>> ((8 : Int32) &&& 31).toUInt32).toInt32).toInt8.toInt32)), .val (.int (((p1.toUInt32 >>> ((16 : Int32) &&& 31).toUInt32).toInt32).toInt8.toInt32)), .val (.int (((p1.toUInt32 >>> ((24 : Int32) &&& 31).toUInt32).toInt32).toInt8.toInt32)), .val (.ref b272), .val (.ref r286), .val (.ref r328), .unset] [(.int (4 : Int32))]))
  refine ogoW (fun t k => XS.iconst X339.here hx rfl (hb hby at_190) k) ?_
  show OwnEndsW _ _ _ _ _ _ _ (T339.setTop (mkF m 191 #[.val (.int p0), .val (.int p1), .val (.int (4 : Int32)), .val (.int (p1.toInt8.toInt32)), .val (.int (((p1.toUInt32 >>> ((8 : Int32) &&& 31).toUInt32).toInt32).toInt8.toInt32)), .val (.int (((p1.toUInt32 >>> ((16 : Int32) &&& 31).toUInt32).toInt32).toInt8.toInt32)), .val (.int (((p1.toUInt32 >>> ((24 : Int32) &&& 31).toUInt32).toInt32).toInt8.toInt32)), .val (.ref b272), .val (.ref r286), .val (.ref r328), .unset] [(.int (1 : Int32)), (.int (4 : Int32))]))
  refine ogoW (fun t k => XS.icmpNo X339.here hx rfl (hb hby at_191) rfl (tlt (by decide : (1 : Int32) < (4 : Int32))).2.2.2 k) ?_
  show OwnEndsW _ _ _ _ _ _ _ (T339.setTop (mkF m 194 #[.val (.int p0), .val (.int p1), .val (.int (4 : Int32)), .val (.int (p1.toInt8.toInt32)), .val (.int (((p1.toUInt32 >>> ((8 : Int32) &&& 31).toUInt32).toInt32).toInt8.toInt32)), .val (.int (((p1.toUInt32 >>> ((16 : Int32) &&& 31).toUInt32).toInt32).toInt8.toInt32)), .val (.int (((p1.toUInt32 >>> ((24 : Int32) &&& 31).toUInt32).toInt32).toInt8.toInt32)), .val (.ref b272), .val (.ref r286), .val (.ref r328), .unset] []))
  refine ogoW (fun t k => XS.aload X339.here hx rfl (hb hby at_194) rfl rfl k) ?_
  show OwnEndsW _ _ _ _ _ _ _ (T339.setTop (mkF m 196 #[.val (.int p0), .val (.int p1), .val (.int (4 : Int32)), .val (.int (p1.toInt8.toInt32)), .val (.int (((p1.toUInt32 >>> ((8 : Int32) &&& 31).toUInt32).toInt32).toInt8.toInt32)), .val (.int (((p1.toUInt32 >>> ((16 : Int32) &&& 31).toUInt32).toInt32).toInt8.toInt32)), .val (.int (((p1.toUInt32 >>> ((24 : Int32) &&& 31).toUInt32).toInt32).toInt8.toInt32)), .val (.ref b272), .val (.ref r286), .val (.ref r328), .unset] [(.ref r328)]))
  refine ogoW (fun t k => XS.iconst X339.here hx rfl (hb hby at_196) k) ?_
  show OwnEndsW _ _ _ _ _ _ _ (T339.setTop (mkF m 197 #[.val (.int p0), .val (.int p1), .val (.int (4 : Int32)), .val (.int (p1.toInt8.toInt32)), .val (.int (((p1.toUInt32 >>> ((8 : Int32) &&& 31).toUInt32).toInt32).toInt8.toInt32)), .val (.int (((p1.toUInt32 >>> ((16 : Int32) &&& 31).toUInt32).toInt32).toInt8.toInt32)), .val (.int (((p1.toUInt32 >>> ((24 : Int32) &&& 31).toUInt32).toInt32).toInt8.toInt32)), .val (.ref b272), .val (.ref r286), .val (.ref r328), .unset] [(.int (1 : Int32)), (.ref r328)]))
  refine ogoW (fun t k => XS.iload X339.here hx rfl (hb hby at_197) rfl k) ?_
  show OwnEndsW _ _ _ _ _ _ _ (T339.setTop (mkF m 199 #[.val (.int p0), .val (.int p1), .val (.int (4 : Int32)), .val (.int (p1.toInt8.toInt32)), .val (.int (((p1.toUInt32 >>> ((8 : Int32) &&& 31).toUInt32).toInt32).toInt8.toInt32)), .val (.int (((p1.toUInt32 >>> ((16 : Int32) &&& 31).toUInt32).toInt32).toInt8.toInt32)), .val (.int (((p1.toUInt32 >>> ((24 : Int32) &&& 31).toUInt32).toInt32).toInt8.toInt32)), .val (.ref b272), .val (.ref r286), .val (.ref r328), .unset] [(.int (((p1.toUInt32 >>> ((8 : Int32) &&& 31).toUInt32).toInt32).toInt8.toInt32)), (.int (1 : Int32)), (.ref r328)]))
  refine ogoW (fun t k => XS.iconst X339.here hx rfl (hb hby at_199) k) ?_
  show OwnEndsW _ _ _ _ _ _ _ (T339.setTop (mkF m 200 #[.val (.int p0), .val (.int p1), .val (.int (4 : Int32)), .val (.int (p1.toInt8.toInt32)), .val (.int (((p1.toUInt32 >>> ((8 : Int32) &&& 31).toUInt32).toInt32).toInt8.toInt32)), .val (.int (((p1.toUInt32 >>> ((16 : Int32) &&& 31).toUInt32).toInt32).toInt8.toInt32)), .val (.int (((p1.toUInt32 >>> ((24 : Int32) &&& 31).toUInt32).toInt32).toInt8.toInt32)), .val (.ref b272), .val (.ref r286), .val (.ref r328), .unset] [(.int (-1 : Int32)), (.int (((p1.toUInt32 >>> ((8 : Int32) &&& 31).toUInt32).toInt32).toInt8.toInt32)), (.int (1 : Int32)), (.ref r328)]))
  refine ogoW (fun t k => XS.ixor X339.here hx rfl (hb hby at_200) rfl k) ?_
  show OwnEndsW _ _ _ _ _ _ _ (T339.setTop (mkF m 201 #[.val (.int p0), .val (.int p1), .val (.int (4 : Int32)), .val (.int (p1.toInt8.toInt32)), .val (.int (((p1.toUInt32 >>> ((8 : Int32) &&& 31).toUInt32).toInt32).toInt8.toInt32)), .val (.int (((p1.toUInt32 >>> ((16 : Int32) &&& 31).toUInt32).toInt32).toInt8.toInt32)), .val (.int (((p1.toUInt32 >>> ((24 : Int32) &&& 31).toUInt32).toInt32).toInt8.toInt32)), .val (.ref b272), .val (.ref r286), .val (.ref r328), .unset] [(.int ((((p1.toUInt32 >>> ((8 : Int32) &&& 31).toUInt32).toInt32).toInt8.toInt32) ^^^ (-1 : Int32))), (.int (1 : Int32)), (.ref r328)]))
  refine ogoW (fun t k => XS.i2b X339.here hx rfl (hb hby at_201) rfl k) ?_
  show OwnEndsW _ _ _ _ _ _ _ (T339.setTop (mkF m 202 #[.val (.int p0), .val (.int p1), .val (.int (4 : Int32)), .val (.int (p1.toInt8.toInt32)), .val (.int (((p1.toUInt32 >>> ((8 : Int32) &&& 31).toUInt32).toInt32).toInt8.toInt32)), .val (.int (((p1.toUInt32 >>> ((16 : Int32) &&& 31).toUInt32).toInt32).toInt8.toInt32)), .val (.int (((p1.toUInt32 >>> ((24 : Int32) &&& 31).toUInt32).toInt32).toInt8.toInt32)), .val (.ref b272), .val (.ref r286), .val (.ref r328), .unset] [(.int (((((p1.toUInt32 >>> ((8 : Int32) &&& 31).toUInt32).toInt32).toInt8.toInt32) ^^^ (-1 : Int32)).toInt8.toInt32)), (.int (1 : Int32)), (.ref r328)]))
  obtain ⟨cl350, Ar350, Aq350, As350, An350, Ah350, Ag350⟩ := id V339
  obtain ⟨T350, h350, X350, e350, W350, st350⟩ := stB X339 hx hZ e339 Ar350 (j := (1 : Int32)) (inb_of As350 ⟨by decide, by decide⟩) (g := (mkF m 202 #[.val (.int p0), .val (.int p1), .val (.int (4 : Int32)), .val (.int (p1.toInt8.toInt32)), .val (.int (((p1.toUInt32 >>> ((8 : Int32) &&& 31).toUInt32).toInt32).toInt8.toInt32)), .val (.int (((p1.toUInt32 >>> ((16 : Int32) &&& 31).toUInt32).toInt32).toInt8.toInt32)), .val (.int (((p1.toUInt32 >>> ((24 : Int32) &&& 31).toUInt32).toInt32).toInt8.toInt32)), .val (.ref b272), .val (.ref r286), .val (.ref r328), .unset] [(.int (((((p1.toUInt32 >>> ((8 : Int32) &&& 31).toUInt32).toInt32).toInt8.toInt32) ^^^ (-1 : Int32)).toInt8.toInt32)), (.int (1 : Int32)), (.ref r328)])) rfl rfl (hb hby at_202)
  rw [own_narb] at W350
  have V350 : Arv Z h350 r328 ak339 .byte (4 : Int32) [(.int (((p1.toInt8.toInt32) ^^^ (-1 : Int32)).toInt8.toInt32)), (.int (((((p1.toUInt32 >>> ((8 : Int32) &&& 31).toUInt32).toInt32).toInt8.toInt32) ^^^ (-1 : Int32)).toInt8.toInt32)), (.int (((p1.toUInt32 >>> ((16 : Int32) &&& 31).toUInt32).toInt32).toInt8.toInt32)), (.int (((p1.toUInt32 >>> ((24 : Int32) &&& 31).toUInt32).toInt32).toInt8.toInt32))] (.int (0 : Int32)) := Arv.set Ar350 Aq350 As350 An350 Ah350 Ag350 (fits_nar_byte _) W350 1 rfl (Nat.le_of_ble_eq_true rfl)
  have f351 := f340.other W350 ne_b272_r328
  have f352 := f341.wr W350
  have f353 := f342.wr W350
  have f354 := f343.other W350 (Or.inl ne_r286_r328)
  have f355 := f344.other W350 (Or.inl ne_r286_r328)
  have f356 := f345.other W350 ne_x286_r328
  have f357 := f346.wr W350
  have f358 := f347.wr W350
  have N359 := Fr.snoc X350 N348 q_r328
  have OLD359 := OLD348.wr W350 q_r328
  have K359 := K348.wr W350 (Or.inr sz_r328)
  have Z359 := Nat.le_trans Z348 (Nat.le_of_eq W350.size.symm)
  have hk360 := Nat.le_trans hk349 (Nat.le_of_eq W350.size.symm)
  refine ogoW st350 ?_
  show OwnEndsW _ _ _ _ _ _ _ (T350.setTop (mkF m 203 #[.val (.int p0), .val (.int p1), .val (.int (4 : Int32)), .val (.int (p1.toInt8.toInt32)), .val (.int (((p1.toUInt32 >>> ((8 : Int32) &&& 31).toUInt32).toInt32).toInt8.toInt32)), .val (.int (((p1.toUInt32 >>> ((16 : Int32) &&& 31).toUInt32).toInt32).toInt8.toInt32)), .val (.int (((p1.toUInt32 >>> ((24 : Int32) &&& 31).toUInt32).toInt32).toInt8.toInt32)), .val (.ref b272), .val (.ref r286), .val (.ref r328), .unset] []))
  refine ogoW (fun t k => XS.iloadN X350.here hx rfl (hb hby at_203) rfl k) ?_
  show OwnEndsW _ _ _ _ _ _ _ (T350.setTop (mkF m 204 #[.val (.int p0), .val (.int p1), .val (.int (4 : Int32)), .val (.int (p1.toInt8.toInt32)), .val (.int (((p1.toUInt32 >>> ((8 : Int32) &&& 31).toUInt32).toInt32).toInt8.toInt32)), .val (.int (((p1.toUInt32 >>> ((16 : Int32) &&& 31).toUInt32).toInt32).toInt8.toInt32)), .val (.int (((p1.toUInt32 >>> ((24 : Int32) &&& 31).toUInt32).toInt32).toInt8.toInt32)), .val (.ref b272), .val (.ref r286), .val (.ref r328), .unset] [(.int (4 : Int32))]))
  refine ogoW (fun t k => XS.iconst X350.here hx rfl (hb hby at_204) k) ?_
  show OwnEndsW _ _ _ _ _ _ _ (T350.setTop (mkF m 205 #[.val (.int p0), .val (.int p1), .val (.int (4 : Int32)), .val (.int (p1.toInt8.toInt32)), .val (.int (((p1.toUInt32 >>> ((8 : Int32) &&& 31).toUInt32).toInt32).toInt8.toInt32)), .val (.int (((p1.toUInt32 >>> ((16 : Int32) &&& 31).toUInt32).toInt32).toInt8.toInt32)), .val (.int (((p1.toUInt32 >>> ((24 : Int32) &&& 31).toUInt32).toInt32).toInt8.toInt32)), .val (.ref b272), .val (.ref r286), .val (.ref r328), .unset] [(.int (2 : Int32)), (.int (4 : Int32))]))
  refine ogoW (fun t k => XS.icmpNo X350.here hx rfl (hb hby at_205) rfl (tlt (by decide : (2 : Int32) < (4 : Int32))).2.2.2 k) ?_
  show OwnEndsW _ _ _ _ _ _ _ (T350.setTop (mkF m 208 #[.val (.int p0), .val (.int p1), .val (.int (4 : Int32)), .val (.int (p1.toInt8.toInt32)), .val (.int (((p1.toUInt32 >>> ((8 : Int32) &&& 31).toUInt32).toInt32).toInt8.toInt32)), .val (.int (((p1.toUInt32 >>> ((16 : Int32) &&& 31).toUInt32).toInt32).toInt8.toInt32)), .val (.int (((p1.toUInt32 >>> ((24 : Int32) &&& 31).toUInt32).toInt32).toInt8.toInt32)), .val (.ref b272), .val (.ref r286), .val (.ref r328), .unset] []))
  refine ogoW (fun t k => XS.aload X350.here hx rfl (hb hby at_208) rfl rfl k) ?_
  show OwnEndsW _ _ _ _ _ _ _ (T350.setTop (mkF m 210 #[.val (.int p0), .val (.int p1), .val (.int (4 : Int32)), .val (.int (p1.toInt8.toInt32)), .val (.int (((p1.toUInt32 >>> ((8 : Int32) &&& 31).toUInt32).toInt32).toInt8.toInt32)), .val (.int (((p1.toUInt32 >>> ((16 : Int32) &&& 31).toUInt32).toInt32).toInt8.toInt32)), .val (.int (((p1.toUInt32 >>> ((24 : Int32) &&& 31).toUInt32).toInt32).toInt8.toInt32)), .val (.ref b272), .val (.ref r286), .val (.ref r328), .unset] [(.ref r328)]))
  refine ogoW (fun t k => XS.iconst X350.here hx rfl (hb hby at_210) k) ?_
  show OwnEndsW _ _ _ _ _ _ _ (T350.setTop (mkF m 211 #[.val (.int p0), .val (.int p1), .val (.int (4 : Int32)), .val (.int (p1.toInt8.toInt32)), .val (.int (((p1.toUInt32 >>> ((8 : Int32) &&& 31).toUInt32).toInt32).toInt8.toInt32)), .val (.int (((p1.toUInt32 >>> ((16 : Int32) &&& 31).toUInt32).toInt32).toInt8.toInt32)), .val (.int (((p1.toUInt32 >>> ((24 : Int32) &&& 31).toUInt32).toInt32).toInt8.toInt32)), .val (.ref b272), .val (.ref r286), .val (.ref r328), .unset] [(.int (2 : Int32)), (.ref r328)]))
  refine ogoW (fun t k => XS.iload X350.here hx rfl (hb hby at_211) rfl k) ?_
  show OwnEndsW _ _ _ _ _ _ _ (T350.setTop (mkF m 213 #[.val (.int p0), .val (.int p1), .val (.int (4 : Int32)), .val (.int (p1.toInt8.toInt32)), .val (.int (((p1.toUInt32 >>> ((8 : Int32) &&& 31).toUInt32).toInt32).toInt8.toInt32)), .val (.int (((p1.toUInt32 >>> ((16 : Int32) &&& 31).toUInt32).toInt32).toInt8.toInt32)), .val (.int (((p1.toUInt32 >>> ((24 : Int32) &&& 31).toUInt32).toInt32).toInt8.toInt32)), .val (.ref b272), .val (.ref r286), .val (.ref r328), .unset] [(.int (((p1.toUInt32 >>> ((16 : Int32) &&& 31).toUInt32).toInt32).toInt8.toInt32)), (.int (2 : Int32)), (.ref r328)]))
  refine ogoW (fun t k => XS.iconst X350.here hx rfl (hb hby at_213) k) ?_
  show OwnEndsW _ _ _ _ _ _ _ (T350.setTop (mkF m 214 #[.val (.int p0), .val (.int p1), .val (.int (4 : Int32)), .val (.int (p1.toInt8.toInt32)), .val (.int (((p1.toUInt32 >>> ((8 : Int32) &&& 31).toUInt32).toInt32).toInt8.toInt32)), .val (.int (((p1.toUInt32 >>> ((16 : Int32) &&& 31).toUInt32).toInt32).toInt8.toInt32)), .val (.int (((p1.toUInt32 >>> ((24 : Int32) &&& 31).toUInt32).toInt32).toInt8.toInt32)), .val (.ref b272), .val (.ref r286), .val (.ref r328), .unset] [(.int (-1 : Int32)), (.int (((p1.toUInt32 >>> ((16 : Int32) &&& 31).toUInt32).toInt32).toInt8.toInt32)), (.int (2 : Int32)), (.ref r328)]))
  refine ogoW (fun t k => XS.ixor X350.here hx rfl (hb hby at_214) rfl k) ?_
  show OwnEndsW _ _ _ _ _ _ _ (T350.setTop (mkF m 215 #[.val (.int p0), .val (.int p1), .val (.int (4 : Int32)), .val (.int (p1.toInt8.toInt32)), .val (.int (((p1.toUInt32 >>> ((8 : Int32) &&& 31).toUInt32).toInt32).toInt8.toInt32)), .val (.int (((p1.toUInt32 >>> ((16 : Int32) &&& 31).toUInt32).toInt32).toInt8.toInt32)), .val (.int (((p1.toUInt32 >>> ((24 : Int32) &&& 31).toUInt32).toInt32).toInt8.toInt32)), .val (.ref b272), .val (.ref r286), .val (.ref r328), .unset] [(.int ((((p1.toUInt32 >>> ((16 : Int32) &&& 31).toUInt32).toInt32).toInt8.toInt32) ^^^ (-1 : Int32))), (.int (2 : Int32)), (.ref r328)]))
  refine ogoW (fun t k => XS.i2b X350.here hx rfl (hb hby at_215) rfl k) ?_
  show OwnEndsW _ _ _ _ _ _ _ (T350.setTop (mkF m 216 #[.val (.int p0), .val (.int p1), .val (.int (4 : Int32)), .val (.int (p1.toInt8.toInt32)), .val (.int (((p1.toUInt32 >>> ((8 : Int32) &&& 31).toUInt32).toInt32).toInt8.toInt32)), .val (.int (((p1.toUInt32 >>> ((16 : Int32) &&& 31).toUInt32).toInt32).toInt8.toInt32)), .val (.int (((p1.toUInt32 >>> ((24 : Int32) &&& 31).toUInt32).toInt32).toInt8.toInt32)), .val (.ref b272), .val (.ref r286), .val (.ref r328), .unset] [(.int (((((p1.toUInt32 >>> ((16 : Int32) &&& 31).toUInt32).toInt32).toInt8.toInt32) ^^^ (-1 : Int32)).toInt8.toInt32)), (.int (2 : Int32)), (.ref r328)]))
  obtain ⟨cl361, Ar361, Aq361, As361, An361, Ah361, Ag361⟩ := id V350
  obtain ⟨T361, h361, X361, e361, W361, st361⟩ := stB X350 hx hZ e350 Ar361 (j := (2 : Int32)) (inb_of As361 ⟨by decide, by decide⟩) (g := (mkF m 216 #[.val (.int p0), .val (.int p1), .val (.int (4 : Int32)), .val (.int (p1.toInt8.toInt32)), .val (.int (((p1.toUInt32 >>> ((8 : Int32) &&& 31).toUInt32).toInt32).toInt8.toInt32)), .val (.int (((p1.toUInt32 >>> ((16 : Int32) &&& 31).toUInt32).toInt32).toInt8.toInt32)), .val (.int (((p1.toUInt32 >>> ((24 : Int32) &&& 31).toUInt32).toInt32).toInt8.toInt32)), .val (.ref b272), .val (.ref r286), .val (.ref r328), .unset] [(.int (((((p1.toUInt32 >>> ((16 : Int32) &&& 31).toUInt32).toInt32).toInt8.toInt32) ^^^ (-1 : Int32)).toInt8.toInt32)), (.int (2 : Int32)), (.ref r328)])) rfl rfl (hb hby at_216)
  rw [own_narb] at W361
  have V361 : Arv Z h361 r328 ak339 .byte (4 : Int32) [(.int (((p1.toInt8.toInt32) ^^^ (-1 : Int32)).toInt8.toInt32)), (.int (((((p1.toUInt32 >>> ((8 : Int32) &&& 31).toUInt32).toInt32).toInt8.toInt32) ^^^ (-1 : Int32)).toInt8.toInt32)), (.int (((((p1.toUInt32 >>> ((16 : Int32) &&& 31).toUInt32).toInt32).toInt8.toInt32) ^^^ (-1 : Int32)).toInt8.toInt32)), (.int (((p1.toUInt32 >>> ((24 : Int32) &&& 31).toUInt32).toInt32).toInt8.toInt32))] (.int (0 : Int32)) := Arv.set Ar361 Aq361 As361 An361 Ah361 Ag361 (fits_nar_byte _) W361 2 rfl (Nat.le_of_ble_eq_true rfl)
  have f362 := f351.other W361 ne_b272_r328
  have f363 := f352.wr W361
  have f364 := f353.wr W361
  have f365 := f354.other W361 (Or.inl ne_r286_r328)
  have f366 := f355.other W361 (Or.inl ne_r286_r328)
  have f367 := f356.other W361 ne_x286_r328
  have f368 := f357.wr W361
  have f369 := f358.wr W361
  have N370 := Fr.snoc X361 N359 q_r328
  have OLD370 := OLD359.wr W361 q_r328
  have K370 := K359.wr W361 (Or.inr sz_r328)
  have Z370 := Nat.le_trans Z359 (Nat.le_of_eq W361.size.symm)
  have hk371 := Nat.le_trans hk360 (Nat.le_of_eq W361.size.symm)
  refine ogoW st361 ?_
  show OwnEndsW _ _ _ _ _ _ _ (T361.setTop (mkF m 217 #[.val (.int p0), .val (.int p1), .val (.int (4 : Int32)), .val (.int (p1.toInt8.toInt32)), .val (.int (((p1.toUInt32 >>> ((8 : Int32) &&& 31).toUInt32).toInt32).toInt8.toInt32)), .val (.int (((p1.toUInt32 >>> ((16 : Int32) &&& 31).toUInt32).toInt32).toInt8.toInt32)), .val (.int (((p1.toUInt32 >>> ((24 : Int32) &&& 31).toUInt32).toInt32).toInt8.toInt32)), .val (.ref b272), .val (.ref r286), .val (.ref r328), .unset] []))
  refine ogoW (fun t k => XS.iloadN X361.here hx rfl (hb hby at_217) rfl k) ?_
  show OwnEndsW _ _ _ _ _ _ _ (T361.setTop (mkF m 218 #[.val (.int p0), .val (.int p1), .val (.int (4 : Int32)), .val (.int (p1.toInt8.toInt32)), .val (.int (((p1.toUInt32 >>> ((8 : Int32) &&& 31).toUInt32).toInt32).toInt8.toInt32)), .val (.int (((p1.toUInt32 >>> ((16 : Int32) &&& 31).toUInt32).toInt32).toInt8.toInt32)), .val (.int (((p1.toUInt32 >>> ((24 : Int32) &&& 31).toUInt32).toInt32).toInt8.toInt32)), .val (.ref b272), .val (.ref r286), .val (.ref r328), .unset] [(.int (4 : Int32))]))
  refine ogoW (fun t k => XS.iconst X361.here hx rfl (hb hby at_218) k) ?_
  show OwnEndsW _ _ _ _ _ _ _ (T361.setTop (mkF m 219 #[.val (.int p0), .val (.int p1), .val (.int (4 : Int32)), .val (.int (p1.toInt8.toInt32)), .val (.int (((p1.toUInt32 >>> ((8 : Int32) &&& 31).toUInt32).toInt32).toInt8.toInt32)), .val (.int (((p1.toUInt32 >>> ((16 : Int32) &&& 31).toUInt32).toInt32).toInt8.toInt32)), .val (.int (((p1.toUInt32 >>> ((24 : Int32) &&& 31).toUInt32).toInt32).toInt8.toInt32)), .val (.ref b272), .val (.ref r286), .val (.ref r328), .unset] [(.int (3 : Int32)), (.int (4 : Int32))]))
  refine ogoW (fun t k => XS.icmpNo X361.here hx rfl (hb hby at_219) rfl (tlt (by decide : (3 : Int32) < (4 : Int32))).2.2.2 k) ?_
  show OwnEndsW _ _ _ _ _ _ _ (T361.setTop (mkF m 222 #[.val (.int p0), .val (.int p1), .val (.int (4 : Int32)), .val (.int (p1.toInt8.toInt32)), .val (.int (((p1.toUInt32 >>> ((8 : Int32) &&& 31).toUInt32).toInt32).toInt8.toInt32)), .val (.int (((p1.toUInt32 >>> ((16 : Int32) &&& 31).toUInt32).toInt32).toInt8.toInt32)), .val (.int (((p1.toUInt32 >>> ((24 : Int32) &&& 31).toUInt32).toInt32).toInt8.toInt32)), .val (.ref b272), .val (.ref r286), .val (.ref r328), .unset] []))
  refine ogoW (fun t k => XS.aload X361.here hx rfl (hb hby at_222) rfl rfl k) ?_
  show OwnEndsW _ _ _ _ _ _ _ (T361.setTop (mkF m 224 #[.val (.int p0), .val (.int p1), .val (.int (4 : Int32)), .val (.int (p1.toInt8.toInt32)), .val (.int (((p1.toUInt32 >>> ((8 : Int32) &&& 31).toUInt32).toInt32).toInt8.toInt32)), .val (.int (((p1.toUInt32 >>> ((16 : Int32) &&& 31).toUInt32).toInt32).toInt8.toInt32)), .val (.int (((p1.toUInt32 >>> ((24 : Int32) &&& 31).toUInt32).toInt32).toInt8.toInt32)), .val (.ref b272), .val (.ref r286), .val (.ref r328), .unset] [(.ref r328)]))
  refine ogoW (fun t k => XS.iconst X361.here hx rfl (hb hby at_224) k) ?_
  show OwnEndsW _ _ _ _ _ _ _ (T361.setTop (mkF m 225 #[.val (.int p0), .val (.int p1), .val (.int (4 : Int32)), .val (.int (p1.toInt8.toInt32)), .val (.int (((p1.toUInt32 >>> ((8 : Int32) &&& 31).toUInt32).toInt32).toInt8.toInt32)), .val (.int (((p1.toUInt32 >>> ((16 : Int32) &&& 31).toUInt32).toInt32).toInt8.toInt32)), .val (.int (((p1.toUInt32 >>> ((24 : Int32) &&& 31).toUInt32).toInt32).toInt8.toInt32)), .val (.ref b272), .val (.ref r286), .val (.ref r328), .unset] [(.int (3 : Int32)), (.ref r328)]))
  refine ogoW (fun t k => XS.iload X361.here hx rfl (hb hby at_225) rfl k) ?_
  show OwnEndsW _ _ _ _ _ _ _ (T361.setTop (mkF m 227 #[.val (.int p0), .val (.int p1), .val (.int (4 : Int32)), .val (.int (p1.toInt8.toInt32)), .val (.int (((p1.toUInt32 >>> ((8 : Int32) &&& 31).toUInt32).toInt32).toInt8.toInt32)), .val (.int (((p1.toUInt32 >>> ((16 : Int32) &&& 31).toUInt32).toInt32).toInt8.toInt32)), .val (.int (((p1.toUInt32 >>> ((24 : Int32) &&& 31).toUInt32).toInt32).toInt8.toInt32)), .val (.ref b272), .val (.ref r286), .val (.ref r328), .unset] [(.int (((p1.toUInt32 >>> ((24 : Int32) &&& 31).toUInt32).toInt32).toInt8.toInt32)), (.int (3 : Int32)), (.ref r328)]))
  refine ogoW (fun t k => XS.iconst X361.here hx rfl (hb hby at_227) k) ?_
  show OwnEndsW _ _ _ _ _ _ _ (T361.setTop (mkF m 228 #[.val (.int p0), .val (.int p1), .val (.int (4 : Int32)), .val (.int (p1.toInt8.toInt32)), .val (.int (((p1.toUInt32 >>> ((8 : Int32) &&& 31).toUInt32).toInt32).toInt8.toInt32)), .val (.int (((p1.toUInt32 >>> ((16 : Int32) &&& 31).toUInt32).toInt32).toInt8.toInt32)), .val (.int (((p1.toUInt32 >>> ((24 : Int32) &&& 31).toUInt32).toInt32).toInt8.toInt32)), .val (.ref b272), .val (.ref r286), .val (.ref r328), .unset] [(.int (-1 : Int32)), (.int (((p1.toUInt32 >>> ((24 : Int32) &&& 31).toUInt32).toInt32).toInt8.toInt32)), (.int (3 : Int32)), (.ref r328)]))
  refine ogoW (fun t k => XS.ixor X361.here hx rfl (hb hby at_228) rfl k) ?_
  show OwnEndsW _ _ _ _ _ _ _ (T361.setTop (mkF m 229 #[.val (.int p0), .val (.int p1), .val (.int (4 : Int32)), .val (.int (p1.toInt8.toInt32)), .val (.int (((p1.toUInt32 >>> ((8 : Int32) &&& 31).toUInt32).toInt32).toInt8.toInt32)), .val (.int (((p1.toUInt32 >>> ((16 : Int32) &&& 31).toUInt32).toInt32).toInt8.toInt32)), .val (.int (((p1.toUInt32 >>> ((24 : Int32) &&& 31).toUInt32).toInt32).toInt8.toInt32)), .val (.ref b272), .val (.ref r286), .val (.ref r328), .unset] [(.int ((((p1.toUInt32 >>> ((24 : Int32) &&& 31).toUInt32).toInt32).toInt8.toInt32) ^^^ (-1 : Int32))), (.int (3 : Int32)), (.ref r328)]))
  refine ogoW (fun t k => XS.i2b X361.here hx rfl (hb hby at_229) rfl k) ?_
  show OwnEndsW _ _ _ _ _ _ _ (T361.setTop (mkF m 230 #[.val (.int p0), .val (.int p1), .val (.int (4 : Int32)), .val (.int (p1.toInt8.toInt32)), .val (.int (((p1.toUInt32 >>> ((8 : Int32) &&& 31).toUInt32).toInt32).toInt8.toInt32)), .val (.int (((p1.toUInt32 >>> ((16 : Int32) &&& 31).toUInt32).toInt32).toInt8.toInt32)), .val (.int (((p1.toUInt32 >>> ((24 : Int32) &&& 31).toUInt32).toInt32).toInt8.toInt32)), .val (.ref b272), .val (.ref r286), .val (.ref r328), .unset] [(.int (((((p1.toUInt32 >>> ((24 : Int32) &&& 31).toUInt32).toInt32).toInt8.toInt32) ^^^ (-1 : Int32)).toInt8.toInt32)), (.int (3 : Int32)), (.ref r328)]))
  obtain ⟨cl372, Ar372, Aq372, As372, An372, Ah372, Ag372⟩ := id V361
  obtain ⟨T372, h372, X372, e372, W372, st372⟩ := stB X361 hx hZ e361 Ar372 (j := (3 : Int32)) (inb_of As372 ⟨by decide, by decide⟩) (g := (mkF m 230 #[.val (.int p0), .val (.int p1), .val (.int (4 : Int32)), .val (.int (p1.toInt8.toInt32)), .val (.int (((p1.toUInt32 >>> ((8 : Int32) &&& 31).toUInt32).toInt32).toInt8.toInt32)), .val (.int (((p1.toUInt32 >>> ((16 : Int32) &&& 31).toUInt32).toInt32).toInt8.toInt32)), .val (.int (((p1.toUInt32 >>> ((24 : Int32) &&& 31).toUInt32).toInt32).toInt8.toInt32)), .val (.ref b272), .val (.ref r286), .val (.ref r328), .unset] [(.int (((((p1.toUInt32 >>> ((24 : Int32) &&& 31).toUInt32).toInt32).toInt8.toInt32) ^^^ (-1 : Int32)).toInt8.toInt32)), (.int (3 : Int32)), (.ref r328)])) rfl rfl (hb hby at_230)
  rw [own_narb] at W372
  have V372 : Arv Z h372 r328 ak339 .byte (4 : Int32) [(.int (((p1.toInt8.toInt32) ^^^ (-1 : Int32)).toInt8.toInt32)), (.int (((((p1.toUInt32 >>> ((8 : Int32) &&& 31).toUInt32).toInt32).toInt8.toInt32) ^^^ (-1 : Int32)).toInt8.toInt32)), (.int (((((p1.toUInt32 >>> ((16 : Int32) &&& 31).toUInt32).toInt32).toInt8.toInt32) ^^^ (-1 : Int32)).toInt8.toInt32)), (.int (((((p1.toUInt32 >>> ((24 : Int32) &&& 31).toUInt32).toInt32).toInt8.toInt32) ^^^ (-1 : Int32)).toInt8.toInt32))] (.int (0 : Int32)) := Arv.set Ar372 Aq372 As372 An372 Ah372 Ag372 (fits_nar_byte _) W372 3 rfl (Nat.le_of_ble_eq_true rfl)
  have f373 := f362.other W372 ne_b272_r328
  have f374 := f363.wr W372
  have f375 := f364.wr W372
  have f376 := f365.other W372 (Or.inl ne_r286_r328)
  have f377 := f366.other W372 (Or.inl ne_r286_r328)
  have f378 := f367.other W372 ne_x286_r328
  have f379 := f368.wr W372
  have f380 := f369.wr W372
  have N381 := Fr.snoc X372 N370 q_r328
  have OLD381 := OLD370.wr W372 q_r328
  have K381 := K370.wr W372 (Or.inr sz_r328)
  have Z381 := Nat.le_trans Z370 (Nat.le_of_eq W372.size.symm)
  have hk382 := Nat.le_trans hk371 (Nat.le_of_eq W372.size.symm)
  refine ogoW st372 ?_
  show OwnEndsW _ _ _ _ _ _ _ (T372.setTop (mkF m 231 #[.val (.int p0), .val (.int p1), .val (.int (4 : Int32)), .val (.int (p1.toInt8.toInt32)), .val (.int (((p1.toUInt32 >>> ((8 : Int32) &&& 31).toUInt32).toInt32).toInt8.toInt32)), .val (.int (((p1.toUInt32 >>> ((16 : Int32) &&& 31).toUInt32).toInt32).toInt8.toInt32)), .val (.int (((p1.toUInt32 >>> ((24 : Int32) &&& 31).toUInt32).toInt32).toInt8.toInt32)), .val (.ref b272), .val (.ref r286), .val (.ref r328), .unset] []))
  refine ogoW (fun t k => XS.aload X372.here hx rfl (hb hby at_231) rfl rfl k) ?_
  show OwnEndsW _ _ _ _ _ _ _ (T372.setTop (mkF m 233 #[.val (.int p0), .val (.int p1), .val (.int (4 : Int32)), .val (.int (p1.toInt8.toInt32)), .val (.int (((p1.toUInt32 >>> ((8 : Int32) &&& 31).toUInt32).toInt32).toInt8.toInt32)), .val (.int (((p1.toUInt32 >>> ((16 : Int32) &&& 31).toUInt32).toInt32).toInt8.toInt32)), .val (.int (((p1.toUInt32 >>> ((24 : Int32) &&& 31).toUInt32).toInt32).toInt8.toInt32)), .val (.ref b272), .val (.ref r286), .val (.ref r328), .unset] [(.ref r286)]))
  obtain ⟨cq383, kq383, q383a, q383b, q383c⟩ := isOf hZ e372 f375
  obtain ⟨v383, _, ⟨T383, L383, k383, n383⟩, -, X383, ⟨Lc383, hQ383, l383, y383, z383⟩, st383⟩ := X372.virtualBack hx (y := (⟨"com/example/once_guard/onceguard/ClaimResult", "payloadDigest", "()[B"⟩ : MethodName)) (z := (⟨"com/example/once_guard/onceguard/ClaimResult", "payloadDigest", "()[B"⟩ : MethodName)) hown (mvT hZ (hw _ (List.mem_of_getElem? (i := 51) rfl))) (mvT hZ (hw _ (List.mem_of_getElem? (i := 52) rfl))) (notFace_of_selects (args := #[]) (mvT hZ (hw _ (List.mem_of_getElem? (i := 54) rfl)))) (mvT hZ (hw _ (List.mem_of_getElem? (i := 54) rfl))) (mvT hZ (hw _ (List.mem_of_getElem? (i := 53) rfl))) (by decide) (backOf (W := 0) (rm4 l Z a0 hw [] r286 x286 (4 : Int32) [(.int (p1.toInt8.toInt32)), (.int (((p1.toUInt32 >>> ((8 : Int32) &&& 31).toUInt32).toInt32).toInt8.toInt32)), (.int (((p1.toUInt32 >>> ((16 : Int32) &&& 31).toUInt32).toInt32).toInt8.toInt32)), (.int (((p1.toUInt32 >>> ((24 : Int32) &&& 31).toUInt32).toInt32).toInt8.toInt32))] w_IN_PROGRESS w_CLAIMED h372 n0 Z381 OLD381 S_CLAIMED f376 f377 f378 f379 (by decide) (Fld.ne F_ordinal_IN_PROGRESS F_ordinal_CLAIMED (by simp))) hZ (hw _ (List.mem_of_getElem? (i := 55) rfl)) (hw _ (List.mem_of_getElem? (i := 4) rfl)) (by decide) (by decide)) q383a q383c (g := (mkF m 233 #[.val (.int p0), .val (.int p1), .val (.int (4 : Int32)), .val (.int (p1.toInt8.toInt32)), .val (.int (((p1.toUInt32 >>> ((8 : Int32) &&& 31).toUInt32).toInt32).toInt8.toInt32)), .val (.int (((p1.toUInt32 >>> ((16 : Int32) &&& 31).toUInt32).toInt32).toInt8.toInt32)), .val (.int (((p1.toUInt32 >>> ((24 : Int32) &&& 31).toUInt32).toInt32).toInt8.toInt32)), .val (.ref b272), .val (.ref r286), .val (.ref r328), .unset] [(.ref r286)])) rfl (by rw [hml]; rfl) (Steps.refl _) (argsL := []) (rest := []) (lenOf pd____B rfl) rfl (by show 2 * 0 + _ ≤ _; exact Nat.le_of_eq rfl) (hb hby at_233) (fun _ _ => ⟨rfl, e372, (by decide : 6 + 1 ≤ _), (by decide : 140 + 4 ≤ _)⟩)
  dsimp only [Pt.U, Pt.locs, Pt.cells, Pt.slots] at X383 l383 y383 z383 st383 hQ383
  subst l383 y383 z383
  obtain ⟨r383, rfl, Sq383, N383q, Kq383, Vq383, Eq383⟩ := hQ383
  have N383 := Fr.app N381 N383q
  have ne_b272_r383 : b272 ≠ r383 := Nat.ne_of_lt (Nat.lt_of_lt_of_le (f373).lt Sq383)
  have ne_r286_r383 : r286 ≠ r383 := Nat.ne_of_lt (Nat.lt_of_lt_of_le (f375).lt Sq383)
  have ne_x286_r383 : x286 ≠ r383 := Nat.ne_of_lt (Nat.lt_of_lt_of_le (f378).lt Sq383)
  have ne_r328_r383 : r328 ≠ r383 := Nat.ne_of_lt (Nat.lt_of_lt_of_le (V372).lt Sq383)
  have q_r383 : n0 ≤ r383 := Nat.le_trans Z381 Sq383
  have sz_r383 : h0.size ≤ r383 := Nat.le_trans K381.1 Sq383
  have f384 := f373.keep Kq383 nin0
  have f385 := f374.keep Kq383
  have f386 := f375.keep Kq383
  have f387 := f376.keep Kq383 nin0
  have f388 := f377.keep Kq383 nin0
  have f389 := f378.keep Kq383 nin0
  have f390 := f379.keep Kq383
  have f391 := V372.keep Kq383 nin0
  have f392 := f380.keep Kq383
  have OLD393 := OLD381.keep Kq383 all0
  have K393 := K381.trans Kq383 all0
  have Z393 := Nat.le_trans Z381 Kq383.1
  have hk394 := Nat.le_trans hk382 Kq383.1
  refine ogoW (fun t k => st383.trans k) ?_
  show OwnEndsW _ _ _ _ _ _ _ (T383.setTop (mkF m 236 #[.val (.int p0), .val (.int p1), .val (.int (4 : Int32)), .val (.int (p1.toInt8.toInt32)), .val (.int (((p1.toUInt32 >>> ((8 : Int32) &&& 31).toUInt32).toInt32).toInt8.toInt32)), .val (.int (((p1.toUInt32 >>> ((16 : Int32) &&& 31).toUInt32).toInt32).toInt8.toInt32)), .val (.int (((p1.toUInt32 >>> ((24 : Int32) &&& 31).toUInt32).toInt32).toInt8.toInt32)), .val (.ref b272), .val (.ref r286), .val (.ref r328), .unset] [(.ref r383)]))
  refine ogoW (fun t k => XS.astore X383.here hx rfl (hb hby at_236) rfl rfl (l' := #[.val (.int p0), .val (.int p1), .val (.int (4 : Int32)), .val (.int (p1.toInt8.toInt32)), .val (.int (((p1.toUInt32 >>> ((8 : Int32) &&& 31).toUInt32).toInt32).toInt8.toInt32)), .val (.int (((p1.toUInt32 >>> ((16 : Int32) &&& 31).toUInt32).toInt32).toInt8.toInt32)), .val (.int (((p1.toUInt32 >>> ((24 : Int32) &&& 31).toUInt32).toInt32).toInt8.toInt32)), .val (.ref b272), .val (.ref r286), .val (.ref r328), .val (.ref r383)]) rfl k) ?_
  show OwnEndsW _ _ _ _ _ _ _ (T383.setTop (mkF m 238 #[.val (.int p0), .val (.int p1), .val (.int (4 : Int32)), .val (.int (p1.toInt8.toInt32)), .val (.int (((p1.toUInt32 >>> ((8 : Int32) &&& 31).toUInt32).toInt32).toInt8.toInt32)), .val (.int (((p1.toUInt32 >>> ((16 : Int32) &&& 31).toUInt32).toInt32).toInt8.toInt32)), .val (.int (((p1.toUInt32 >>> ((24 : Int32) &&& 31).toUInt32).toInt32).toInt8.toInt32)), .val (.ref b272), .val (.ref r286), .val (.ref r328), .val (.ref r383)] []))
  refine ogoW (fun t k => XS.aload X383.here hx rfl (hb hby at_238) rfl rfl k) ?_
  show OwnEndsW _ _ _ _ _ _ _ (T383.setTop (mkF m 240 #[.val (.int p0), .val (.int p1), .val (.int (4 : Int32)), .val (.int (p1.toInt8.toInt32)), .val (.int (((p1.toUInt32 >>> ((8 : Int32) &&& 31).toUInt32).toInt32).toInt8.toInt32)), .val (.int (((p1.toUInt32 >>> ((16 : Int32) &&& 31).toUInt32).toInt32).toInt8.toInt32)), .val (.int (((p1.toUInt32 >>> ((24 : Int32) &&& 31).toUInt32).toInt32).toInt8.toInt32)), .val (.ref b272), .val (.ref r286), .val (.ref r328), .val (.ref r383)] [(.ref r383)]))
  refine ogoW (fun t k => XS.iloadN X383.here hx rfl (hb hby at_240) rfl k) ?_
  show OwnEndsW _ _ _ _ _ _ _ (T383.setTop (mkF m 241 #[.val (.int p0), .val (.int p1), .val (.int (4 : Int32)), .val (.int (p1.toInt8.toInt32)), .val (.int (((p1.toUInt32 >>> ((8 : Int32) &&& 31).toUInt32).toInt32).toInt8.toInt32)), .val (.int (((p1.toUInt32 >>> ((16 : Int32) &&& 31).toUInt32).toInt32).toInt8.toInt32)), .val (.int (((p1.toUInt32 >>> ((24 : Int32) &&& 31).toUInt32).toInt32).toInt8.toInt32)), .val (.ref b272), .val (.ref r286), .val (.ref r328), .val (.ref r383)] [(.int (4 : Int32)), (.ref r383)]))
  refine ogoW (fun t k => XS.iloadN X383.here hx rfl (hb hby at_241) rfl k) ?_
  show OwnEndsW _ _ _ _ _ _ _ (T383.setTop (mkF m 242 #[.val (.int p0), .val (.int p1), .val (.int (4 : Int32)), .val (.int (p1.toInt8.toInt32)), .val (.int (((p1.toUInt32 >>> ((8 : Int32) &&& 31).toUInt32).toInt32).toInt8.toInt32)), .val (.int (((p1.toUInt32 >>> ((16 : Int32) &&& 31).toUInt32).toInt32).toInt8.toInt32)), .val (.int (((p1.toUInt32 >>> ((24 : Int32) &&& 31).toUInt32).toInt32).toInt8.toInt32)), .val (.ref b272), .val (.ref r286), .val (.ref r328), .val (.ref r383)] [(.int (p1.toInt8.toInt32)), (.int (4 : Int32)), (.ref r383)]))
  refine ogoW (fun t k => XS.iload X383.here hx rfl (hb hby at_242) rfl k) ?_
  show OwnEndsW _ _ _ _ _ _ _ (T383.setTop (mkF m 244 #[.val (.int p0), .val (.int p1), .val (.int (4 : Int32)), .val (.int (p1.toInt8.toInt32)), .val (.int (((p1.toUInt32 >>> ((8 : Int32) &&& 31).toUInt32).toInt32).toInt8.toInt32)), .val (.int (((p1.toUInt32 >>> ((16 : Int32) &&& 31).toUInt32).toInt32).toInt8.toInt32)), .val (.int (((p1.toUInt32 >>> ((24 : Int32) &&& 31).toUInt32).toInt32).toInt8.toInt32)), .val (.ref b272), .val (.ref r286), .val (.ref r328), .val (.ref r383)] [(.int (((p1.toUInt32 >>> ((8 : Int32) &&& 31).toUInt32).toInt32).toInt8.toInt32)), (.int (p1.toInt8.toInt32)), (.int (4 : Int32)), (.ref r383)]))
  refine ogoW (fun t k => XS.iload X383.here hx rfl (hb hby at_244) rfl k) ?_
  show OwnEndsW _ _ _ _ _ _ _ (T383.setTop (mkF m 246 #[.val (.int p0), .val (.int p1), .val (.int (4 : Int32)), .val (.int (p1.toInt8.toInt32)), .val (.int (((p1.toUInt32 >>> ((8 : Int32) &&& 31).toUInt32).toInt32).toInt8.toInt32)), .val (.int (((p1.toUInt32 >>> ((16 : Int32) &&& 31).toUInt32).toInt32).toInt8.toInt32)), .val (.int (((p1.toUInt32 >>> ((24 : Int32) &&& 31).toUInt32).toInt32).toInt8.toInt32)), .val (.ref b272), .val (.ref r286), .val (.ref r328), .val (.ref r383)] [(.int (((p1.toUInt32 >>> ((16 : Int32) &&& 31).toUInt32).toInt32).toInt8.toInt32)), (.int (((p1.toUInt32 >>> ((8 : Int32) &&& 31).toUInt32).toInt32).toInt8.toInt32)), (.int (p1.toInt8.toInt32)), (.int (4 : Int32)), (.ref r383)]))
  refine ogoW (fun t k => XS.iload X383.here hx rfl (hb hby at_246) rfl k) ?_
  show OwnEndsW _ _ _ _ _ _ _ (T383.setTop (mkF m 248 #[.val (.int p0), .val (.int p1), .val (.int (4 : Int32)), .val (.int (p1.toInt8.toInt32)), .val (.int (((p1.toUInt32 >>> ((8 : Int32) &&& 31).toUInt32).toInt32).toInt8.toInt32)), .val (.int (((p1.toUInt32 >>> ((16 : Int32) &&& 31).toUInt32).toInt32).toInt8.toInt32)), .val (.int (((p1.toUInt32 >>> ((24 : Int32) &&& 31).toUInt32).toInt32).toInt8.toInt32)), .val (.ref b272), .val (.ref r286), .val (.ref r328), .val (.ref r383)] [(.int (((p1.toUInt32 >>> ((24 : Int32) &&& 31).toUInt32).toInt32).toInt8.toInt32)), (.int (((p1.toUInt32 >>> ((16 : Int32) &&& 31).toUInt32).toInt32).toInt8.toInt32)), (.int (((p1.toUInt32 >>> ((8 : Int32) &&& 31).toUInt32).toInt32).toInt8.toInt32)), (.int (p1.toInt8.toInt32)), (.int (4 : Int32)), (.ref r383)]))
  obtain ⟨v395, _, ⟨T395, L395, k395, n395⟩, -, X395, ⟨Lc395, hQ395, l395, y395, z395⟩, st395⟩ := Jvm.LawKit.callS X383 hx (y := (⟨"com/example/once_guard/onceguard/ClaimResultInProgressPinLaw", "same", "([BIBBBB)Z"⟩ : MethodName)) hown (mvT hZ (hw _ (List.mem_of_getElem? (i := 58) rfl))) (mvT hZ (hw _ (List.mem_of_getElem? (i := 59) rfl))) (mvT hZ (hw _ (List.mem_of_getElem? (i := 60) rfl))) (mvT hZ (hw _ (List.mem_of_getElem? (i := 61) rfl))) (by decide) (backOf (W := 0) (rm64 l Z a0 hw [] r383 (p1.toInt8.toInt32) (((p1.toUInt32 >>> ((8 : Int32) &&& 31).toUInt32).toInt32).toInt8.toInt32) (((p1.toUInt32 >>> ((16 : Int32) &&& 31).toUInt32).toInt32).toInt8.toInt32) (((p1.toUInt32 >>> ((24 : Int32) &&& 31).toUInt32).toInt32).toInt8.toInt32) T383.heap n0 Z393 Vq383) hZ (hw _ (List.mem_of_getElem? (i := 61) rfl)) (hw _ (List.mem_of_getElem? (i := 60) rfl)) (by decide) (by decide)) (g := (mkF m 248 #[.val (.int p0), .val (.int p1), .val (.int (4 : Int32)), .val (.int (p1.toInt8.toInt32)), .val (.int (((p1.toUInt32 >>> ((8 : Int32) &&& 31).toUInt32).toInt32).toInt8.toInt32)), .val (.int (((p1.toUInt32 >>> ((16 : Int32) &&& 31).toUInt32).toInt32).toInt8.toInt32)), .val (.int (((p1.toUInt32 >>> ((24 : Int32) &&& 31).toUInt32).toInt32).toInt8.toInt32)), .val (.ref b272), .val (.ref r286), .val (.ref r328), .val (.ref r383)] [(.int (((p1.toUInt32 >>> ((24 : Int32) &&& 31).toUInt32).toInt32).toInt8.toInt32)), (.int (((p1.toUInt32 >>> ((16 : Int32) &&& 31).toUInt32).toInt32).toInt8.toInt32)), (.int (((p1.toUInt32 >>> ((8 : Int32) &&& 31).toUInt32).toInt32).toInt8.toInt32)), (.int (p1.toInt8.toInt32)), (.int (4 : Int32)), (.ref r383)])) rfl (by rw [hml]; rfl) (argsL := [(.ref r383), (.int (4 : Int32)), (.int (p1.toInt8.toInt32)), (.int (((p1.toUInt32 >>> ((8 : Int32) &&& 31).toUInt32).toInt32).toInt8.toInt32)), (.int (((p1.toUInt32 >>> ((16 : Int32) &&& 31).toUInt32).toInt32).toInt8.toInt32)), (.int (((p1.toUInt32 >>> ((24 : Int32) &&& 31).toUInt32).toInt32).toInt8.toInt32))]) (rest := []) (lenOf pd___BIBBBB_Z rfl) rfl (by show 2 * 0 + _ ≤ _; exact Nat.le_of_eq rfl) (hb hby at_248) (fun _ _ => ⟨rfl, rfl, (by decide : 7 + 0 ≤ _), (by decide : 144 + 0 ≤ _)⟩)
  dsimp only [Pt.U, Pt.locs, Pt.cells, Pt.slots] at X395 l395 y395 z395 st395 hQ395
  subst l395 y395 z395
  obtain ⟨rfl, N395q, e395⟩ := hQ395
  have N395 := Fr.app N383 N395q
  refine ogoW (fun t k => st395 t k) ?_
  show OwnEndsW _ _ _ _ _ _ _ (T395.setTop (mkF m 251 #[.val (.int p0), .val (.int p1), .val (.int (4 : Int32)), .val (.int (p1.toInt8.toInt32)), .val (.int (((p1.toUInt32 >>> ((8 : Int32) &&& 31).toUInt32).toInt32).toInt8.toInt32)), .val (.int (((p1.toUInt32 >>> ((16 : Int32) &&& 31).toUInt32).toInt32).toInt8.toInt32)), .val (.int (((p1.toUInt32 >>> ((24 : Int32) &&& 31).toUInt32).toInt32).toInt8.toInt32)), .val (.ref b272), .val (.ref r286), .val (.ref r328), .val (.ref r383)] [(.int (1 : Int32))]))
  refine endZW X395 hS286 (by rw [e395]; exact hk394) hx hlk hret rfl (hb hby at_251) (by decide) (by decide) ?_
  show Q0 Z p0 p1 w_IN_PROGRESS w_CLAIMED h0 n0 _ T395.heap _
  rw [e395]
  exact ⟨rfl, N395⟩
set_option maxRecDepth 65536 in
set_option maxHeartbeats 40000000 in
theorem rm0 (l : Launch) (Z : State) (a0 : Array Value) (hw : ∀ d ∈ tables_1, d.before a0 Z = true) (ws : List Jvm.Cond) (p0 p1 : Int32) (w_IN_PROGRESS w_CLAIMED : Addr) (h0 : Heap) (n0 : Nat) (Z0 : n0 ≤ h0.size) (OLD : Old Z n0 h0) (S_IN_PROGRESS : Sta Z Z.heap "com/example/once_guard/onceguard/ClaimResult$State" "IN_PROGRESS" "Lcom/example/once_guard/onceguard/ClaimResult$State;" (.ref w_IN_PROGRESS)) (E_IN_PROGRESS : Exa Z Z.heap w_IN_PROGRESS "com/example/once_guard/onceguard/ClaimResult$State") (F_ordinal_IN_PROGRESS : Fld Z Z.heap w_IN_PROGRESS "java/lang/Enum" "ordinal" "I" (.int (1 : Int32))) (S_CLAIMED : Sta Z Z.heap "com/example/once_guard/onceguard/ClaimResult$State" "CLAIMED" "Lcom/example/once_guard/onceguard/ClaimResult$State;" (.ref w_CLAIMED)) (E_CLAIMED : Exa Z Z.heap w_CLAIMED "com/example/once_guard/onceguard/ClaimResult$State") (F_ordinal_CLAIMED : Fld Z Z.heap w_CLAIMED "java/lang/Enum" "ordinal" "I" (.int (0 : Int32))) :
    MetFree l x (head1 (Jvm.Cond.code x code maxLocals ret :: ws) room_1) (fun a U => a = #[(.int p0), (.int p1)] ∧ Z.Warmed39 U.vm ∧ U.heap = h0) (fun _ _ _ _ _ => True) (fun _ U o U' => ∃ v L, o = .returned v ∧ Q0 Z p0 p1 w_IN_PROGRESS w_CLAIMED h0 n0 v U'.heap L ∧ ReturnedEndW U o U' L 24 1152) := by
  refine MetFree.of_bodySF (plainFor_of_name pn_ClaimResultInProgressPinLaw) hisR ?_
  intro p e s m args below meth c s₁ Bd hml0 hP hK
  obtain ⟨rfl, hZ, hh⟩ := hP
  have hx := Bd.exec
  have hby := Bd.bytes
  have hml : c.maxLocals = 11 := hml0
  have hown : s.vm.findClass "com/example/once_guard/onceguard/ClaimResultInProgressPinLaw" = some m.cls := findClass_of_methodNamed Bd.named
  have hnm := (name_of_methodNamed Bd.named Bd.method).1
  have hlk : meth.locks = false := BodyLoose.notSynchronized Bd
  have hret := Bd.returns
  have X0 : Stand p l e room_1 s m #[(.int p0), (.int p1)] below meth c s₁ [] 0 0 := Stand.of_body Bd
  have e0 : s₁.heap = h0 := by rw [← hh, Bd.state]; rfl
  have N0 := Fr.nil n0
  have X0 : Stand p l e room_1 (s.setVm s.vm) m #[(.int p0), (.int p1)] below meth c s₁ [] 0 0 := X0
  have hZ : Z.Warmed39 (s.setVm s.vm).vm := hZ
  have hown : (s.setVm s.vm).vm.findClass "com/example/once_guard/onceguard/ClaimResultInProgressPinLaw" = some m.cls := hown
  have hS0 : s.Since s.vm 0 := own_since0 s
  refine ogoW (U' := s₁.setTop (mkF m 0 #[.val (.int p0), .val (.int p1), .unset, .unset, .unset, .unset, .unset, .unset, .unset, .unset, .unset] [])) (Q := Q0 Z p0 p1 w_IN_PROGRESS w_CLAIMED h0 n0) (K := 24) (N := 1152) (fun t k => castTop (ef_0 m p0 p1) k) ?_
  show OwnEndsW _ _ _ _ _ _ _ (s₁.setTop (mkF m 0 #[.val (.int p0), .val (.int p1), .unset, .unset, .unset, .unset, .unset, .unset, .unset, .unset, .unset] []))
  refine ogoW (fun t k => XS.iloadN X0.here hx rfl (hb hby at_0) rfl k) ?_
  show OwnEndsW _ _ _ _ _ _ _ (s₁.setTop (mkF m 1 #[.val (.int p0), .val (.int p1), .unset, .unset, .unset, .unset, .unset, .unset, .unset, .unset, .unset] [(.int p0)]))
  refine ogoW (fun t k => X0.ldcInt hx hown (mvT hZ (hw _ (List.mem_of_getElem? (i := 0) rfl))) (g := (mkF m 1 #[.val (.int p0), .val (.int p1), .unset, .unset, .unset, .unset, .unset, .unset, .unset, .unset, .unset] [(.int p0)])) rfl (hb hby at_1) t k) ?_
  show OwnEndsW _ _ _ _ _ _ _ (s₁.setTop (mkF m 3 #[.val (.int p0), .val (.int p1), .unset, .unset, .unset, .unset, .unset, .unset, .unset, .unset, .unset] [(.int (2147483647 : Int32)), (.int p0)]))
  refine ogoW (fun t k => XS.iand X0.here hx rfl (hb hby at_3) rfl k) ?_
  show OwnEndsW _ _ _ _ _ _ _ (s₁.setTop (mkF m 4 #[.val (.int p0), .val (.int p1), .unset, .unset, .unset, .unset, .unset, .unset, .unset, .unset, .unset] [(.int (p0 &&& (2147483647 : Int32)))]))
  refine ogoW (fun t k => XS.iconst X0.here hx rfl (hb hby at_4) k) ?_
  show OwnEndsW _ _ _ _ _ _ _ (s₁.setTop (mkF m 5 #[.val (.int p0), .val (.int p1), .unset, .unset, .unset, .unset, .unset, .unset, .unset, .unset, .unset] [(.int (5 : Int32)), (.int (p0 &&& (2147483647 : Int32)))]))
  refine ogoW (fun t k => iremM (g := (mkF m 5 #[.val (.int p0), .val (.int p1), .unset, .unset, .unset, .unset, .unset, .unset, .unset, .unset, .unset] [(.int (5 : Int32)), (.int (p0 &&& (2147483647 : Int32)))])) X0 hx rfl (hb hby at_5) rfl (by decide) k) ?_
  generalize hk : ((p0 &&& (2147483647 : Int32)) % (5 : Int32)) = k
  rcases own_case5 (hk ▸ own_rng p0 5 (by decide)) with rfl | rfl | rfl | rfl | rfl
  · have cKC1 := (Keep.refl h0 [])
    exact tn0_k0 Z a0 hw p0 p1 w_IN_PROGRESS w_CLAIMED h0 n0 OLD S_IN_PROGRESS E_IN_PROGRESS F_ordinal_IN_PROGRESS S_CLAIMED E_CLAIMED F_ordinal_CLAIMED s₁  hx hZ hby hml hown hnm hlk hret X0 e0 N0 cKC1 Z0 hS0
  · have cKC34 := (Keep.refl h0 [])
    exact tn0_k1 Z a0 hw p0 p1 w_IN_PROGRESS w_CLAIMED h0 n0 OLD S_IN_PROGRESS E_IN_PROGRESS F_ordinal_IN_PROGRESS S_CLAIMED E_CLAIMED F_ordinal_CLAIMED s₁  hx hZ hby hml hown hnm hlk hret X0 e0 N0 cKC34 Z0 hS0
  · have cKC90 := (Keep.refl h0 [])
    exact tn0_k2 Z a0 hw p0 p1 w_IN_PROGRESS w_CLAIMED h0 n0 OLD S_IN_PROGRESS E_IN_PROGRESS F_ordinal_IN_PROGRESS S_CLAIMED E_CLAIMED F_ordinal_CLAIMED s₁  hx hZ hby hml hown hnm hlk hret X0 e0 N0 cKC90 Z0 hS0
  · have cKC169 := (Keep.refl h0 [])
    exact tn0_k3 Z a0 hw p0 p1 w_IN_PROGRESS w_CLAIMED h0 n0 OLD S_IN_PROGRESS E_IN_PROGRESS F_ordinal_IN_PROGRESS S_CLAIMED E_CLAIMED F_ordinal_CLAIMED s₁  hx hZ hby hml hown hnm hlk hret X0 e0 N0 cKC169 Z0 hS0
  · have cKC271 := (Keep.refl h0 [])
    exact tn0_k4 Z a0 hw p0 p1 w_IN_PROGRESS w_CLAIMED h0 n0 OLD S_IN_PROGRESS E_IN_PROGRESS F_ordinal_IN_PROGRESS S_CLAIMED E_CLAIMED F_ordinal_CLAIMED s₁  hx hZ hby hml hown hnm hlk hret X0 e0 N0 cKC271 Z0 hS0
set_option maxRecDepth 65536 in
set_option maxHeartbeats 40000000 in
theorem comes_1 {Post : Tables → Env → Array Value → State → Outcome → State → Prop} (hpost : ∀ tb e args s v u, (limb_1_1.after args s (.returned v) u = true ∧ limb_1_2.after args s (.returned v) u = true ∧ True) → ReturnedEndW s (.returned v) u (Jvm.fieldLocs frame_1_writes args s ++ Jvm.arrayLocs frame_1_arrays args s ++ Jvm.staticLocs frame_1_statics s) 24 1152 → Post tb e args s (.returned v) u) :
    ArmFor flags0 classFile x code maxLocals ret World_1 tables_1 room_1 Calls_1 rest_1 Pre_1 Post := by
  intro l hfl _ _ p e ha hc hk s m args below hf hA hF happ hP
  obtain ⟨hcalls, hrest, hpre⟩ := hP
  obtain ⟨-, -, -, hnamed, -, -, -, hat⟩ := (Spec.applies_iff hf).mp happ
  obtain ⟨hg, hn⟩ := and_e (Cond.before_iff.mp (show (Jvm.Cond.and given_1 narrow_1).before args s = true from hpre))
  obtain ⟨hcount, hg0⟩ := and_e hg
  obtain ⟨hk0, hg1⟩ := and_e hg0
  have hk1 := hg1
  obtain ⟨w0, w1, rfl⟩ : ∃ w0 w1 : Value, args = #[w0, w1] := by
    have hs : args.size = 2 := by simpa [Cond.value, given_1] using hcount
    obtain ⟨L⟩ := args
    match L, hs with
    | [w0, w1], _ => exact ⟨w0, w1, rfl⟩
  have hw := fun d (hd : d ∈ tables_1) => atoms_spec (ws := Jvm.Cond.code x code maxLocals ret :: tables_1) hat d (List.mem_cons_of_mem _ hd)
  have hfit : Fit s := fun {y c} hc i hi => by
    obtain ⟨ha, rfl⟩ := Array.getElem?_eq_some_iff.mp hc
    have q := List.all_eq_true.mp ((Array.all_eq_true_iff_forall_mem.mp hF) _ (Array.getElem_mem ha)) i (List.mem_range.mpr hi)
    simpa [Array.getElem?_eq_getElem hi] using q
  obtain ⟨i0, ei0⟩ := is_v hk0
  obtain rfl : w0 = (.int i0) := Option.some.inj ei0
  obtain ⟨i1, ei1⟩ := is_v hk1
  obtain rfl : w1 = (.int i1) := Option.some.inj ei1
  obtain ⟨u1a, u1b⟩ := and_e hn
  obtain ⟨u2a, u2b⟩ := and_e u1b
  obtain ⟨u3a, u3b⟩ := and_e u2b
  obtain ⟨w_IN_PROGRESS, ev_IN_PROGRESS⟩ := exa_v u1a
  have S_IN_PROGRESS : Sta s s.heap "com/example/once_guard/onceguard/ClaimResult$State" "IN_PROGRESS" "Lcom/example/once_guard/onceguard/ClaimResult$State;" (.ref w_IN_PROGRESS) := Sta.start ev_IN_PROGRESS (Or.inr ⟨(hw _ (List.mem_of_getElem? (i := 20) rfl)), (hw _ (List.mem_of_getElem? (i := 21) rfl))⟩)
  have E_IN_PROGRESS : Exa s s.heap w_IN_PROGRESS "com/example/once_guard/onceguard/ClaimResult$State" := Exa.start ev_IN_PROGRESS u1a
  obtain ⟨w_CLAIMED, ev_CLAIMED⟩ := exa_v u2a
  have S_CLAIMED : Sta s s.heap "com/example/once_guard/onceguard/ClaimResult$State" "CLAIMED" "Lcom/example/once_guard/onceguard/ClaimResult$State;" (.ref w_CLAIMED) := Sta.start ev_CLAIMED (Or.inr ⟨(hw _ (List.mem_of_getElem? (i := 20) rfl)), (hw _ (List.mem_of_getElem? (i := 57) rfl))⟩)
  have E_CLAIMED : Exa s s.heap w_CLAIMED "com/example/once_guard/onceguard/ClaimResult$State" := Exa.start ev_CLAIMED u2a
  have F_ordinal_IN_PROGRESS : Fld s s.heap w_IN_PROGRESS "java/lang/Enum" "ordinal" "I" (.int (1 : Int32)) := own_fld u3a ev_IN_PROGRESS
  have F_ordinal_CLAIMED : Fld s s.heap w_CLAIMED "java/lang/Enum" "ordinal" "I" (.int (0 : Int32)) := own_fld u3b ev_CLAIMED
  obtain ⟨n, o, h1, h2, h3, _, L, rfl, ⟨rfl, N⟩, hq⟩ := rm0 l s _ hw tables_1 i0 i1 w_IN_PROGRESS w_CLAIMED s.heap s.heap.size (Nat.le_refl _) (Old.start s) S_IN_PROGRESS E_IN_PROGRESS F_ordinal_IN_PROGRESS S_CLAIMED E_CLAIMED F_ordinal_CLAIMED p e ha hc hk s m _ below hf ((Spec.applies_iff_loose hf).mp happ).1 ⟨rfl, State.Warmed39.refl s, rfl⟩ trivial
  refine ⟨n, _, h1, h2, h3, hpost _ _ _ _ _ _ ⟨Cond.after_iff.mpr rfl, Cond.after_iff.mpr (eq_i res_at (Term.int_eval (1)) rfl), trivial⟩ ⟨hq.1, hq.2.1, hq.2.2.1, (hq.2.2.2.sift fun y hy => Or.inr (N y hy)).mono (by decide) (by decide)⟩⟩
theorem main_1_1 : Claimed_1_1 := comes_1 fun _ _ _ _ _ _ h hF => ⟨h.1, hF⟩
theorem main_1_2 : Claimed_1_2 := comes_1 fun _ _ _ _ _ _ h hF => ⟨h.2.1, hF⟩
end Jvm.Pilot.@@N@@
namespace Jvm.Pilot.@@N@@
open Jvm Jvm.ClassFile Sem Op Lib Jvm.Free Jvm.Stand Jvm.Pilot.@@N@@.Jvm.D
/-! MADE BY PROGRAM (witnessworld.py) out of the Statement's table words and the real class files: 17 classes; the members and pool entries that the words name. The judged class is class 1, her method 1. -/
namespace start1
open Jvm.ClassFile
def u (s : String) : CpInfo := .utf8 (stringToUtf16 s)
/-- a pool by its gaps: so many unusable entries, then the entry; so many at the end -/
def gap : Nat → List CpInfo → List CpInfo
  | 0, r => r
  | n + 1, r => .unusable :: gap n r
def poolList (es : List (Nat × CpInfo)) (last : Nat) : List CpInfo := es.foldr (fun e r => gap e.1 (e.2 :: r)) (gap last [])
def pool (es : List (Nat × CpInfo)) (last : Nat) : Array CpInfo := ⟨poolList es last⟩
def fileOf (pool : Array CpInfo) (this : Nat) (attrs : Array Attribute := #[]) (ms : Array MethodInfo := #[]) (fl : Nat := 33) (sup : Nat := 0) (ifs : Array Nat := #[]) (fds : Array FieldInfo := #[]) : ClassFile where
  minorVersion := 0
  majorVersion := 65
  constantPool := pool
  accessFlags := fl
  thisClass := this
  superClass := sup
  interfaces := ifs
  fields := fds
  methods := ms
  attributes := attrs
def plain (name : String) (sup : Option ClassId) : Class where
  name := name
  kind := .ordinary
  loader := none
  accessFlags := 33
  super := sup
  interfaces := #[]
  cf := none
  fields := #[]
  methods := #[]
  instanceTypes := #[]
  staticTypes := #[]
  resolved := #[]
  callSites := []
  init := .initialized
  statics := none
  mirror := none

def pool0 : Array CpInfo := pool [(5, u "<init>"), (0, u "()V"), (1, .class_ 10), (1, u "java/lang/Object"), (85, u "clone"), (0, u "()Ljava/lang/Object;")] 26

def k0c0 : Code := { maxStack := 0, maxLocals := 1, code := object_method_1_code, exceptionTable := #[], attributes := #[] }
def k0m0 : Method := { name := "<init>", desc := "()V", sig := { parameters := [], returnType := none }, accessFlags := 1, code := some k0c0 }
def k0m1 : Method := { name := "clone", desc := "()Ljava/lang/Object;", sig := { parameters := [], returnType := some (.object "java/lang/Object") }, accessFlags := 260, code := none }
/-- java/lang/Object -/
def k0 : Class := { plain "java/lang/Object" none with
  accessFlags := 33
  interfaces := #[]
  cf := some (fileOf pool0 8 #[] #[{ accessFlags := 1, nameIndex := 5, descriptorIndex := 6, attributes := #[] }, { accessFlags := 260, nameIndex := 96, descriptorIndex := 97, attributes := #[] }] 33 0 #[] #[])
  fields := #[]
  methods := #[k0m0, k0m1]
  instanceTypes := #[]
  staticTypes := #[]
  resolved := Array.replicate 124 none
  statics := none }

def pool1 : Array CpInfo := pool [(2, .class_ 4), (1, u "java/lang/Object"), (0, u "<init>"), (0, u "()V"), (0, .integer 2147483647), (0, .methodref 9 10), (0, .class_ 11), (0, .nameAndType 12 13), (0, u "com/example/once_guard/onceguard/ClaimResult"), (0, u "inProgress"), (0, u "([B)Lcom/example/once_guard/onceguard/ClaimResult;"), (0, .methodref 9 15), (0, .nameAndType 16 17), (0, u "state"), (0, u "()Lcom/example/once_guard/onceguard/ClaimResult$State;"), (0, .fieldref 19 20), (0, .class_ 21), (0, .nameAndType 22 23), (0, u "com/example/once_guard/onceguard/ClaimResult$State"), (0, u "IN_PROGRESS"), (0, u "Lcom/example/once_guard/onceguard/ClaimResult$State;"), (0, .methodref 9 25), (0, .nameAndType 26 27), (0, u "payloadDigest"), (0, u "()[B"), (0, .methodref 29 30), (0, .class_ 31), (0, .nameAndType 32 33), (0, u "com/example/once_guard/onceguard/ClaimResultInProgressPinLaw"), (0, u "same"), (0, u "([BIBBBB)Z"), (2, u "law"), (0, u "(II)Z")] 7

def k1m0 : Method := { name := "<init>", desc := "()V", sig := { parameters := [], returnType := none }, accessFlags := 1, code := none }
def k1c1 : Code := { maxStack := 6, maxLocals := 11, code := code, exceptionTable := #[], attributes := #[] }
def k1m1 : Method := { name := "law", desc := "(II)Z", sig := { parameters := [.int, .int], returnType := some .boolean }, accessFlags := 9, code := some k1c1 }
def k1c2 : Code := { maxStack := 2, maxLocals := 6, code := method_3_code, exceptionTable := #[], attributes := #[] }
def k1m2 : Method := { name := "same", desc := "([BIBBBB)Z", sig := { parameters := [(.array .byte), .int, .byte, .byte, .byte, .byte], returnType := some .boolean }, accessFlags := 10, code := some k1c2 }
/-- com/example/once_guard/onceguard/ClaimResultInProgressPinLaw -/
def k1 : Class := { plain "com/example/once_guard/onceguard/ClaimResultInProgressPinLaw" (some 0) with
  accessFlags := 49
  interfaces := #[]
  cf := some (fileOf pool1 29 #[] #[{ accessFlags := 1, nameIndex := 5, descriptorIndex := 6, attributes := #[] }, { accessFlags := 9, nameIndex := 36, descriptorIndex := 37, attributes := #[] }, { accessFlags := 10, nameIndex := 32, descriptorIndex := 33, attributes := #[] }] 49 2 #[] #[])
  fields := #[]
  methods := #[k1m0, k1m1, k1m2]
  instanceTypes := #[]
  staticTypes := #[]
  resolved := Array.replicate 45 none
  statics := none }

def pool2 : Array CpInfo := pool [(1, .methodref 2 3), (0, .class_ 4), (0, .nameAndType 5 6), (0, u "java/lang/Object"), (0, u "<init>"), (0, u "()V"), (0, .fieldref 8 9), (0, .class_ 10), (0, .nameAndType 11 12), (0, u "com/example/once_guard/onceguard/ClaimResult"), (0, u "state"), (0, u "Lcom/example/once_guard/onceguard/ClaimResult$State;"), (0, .fieldref 8 14), (0, .nameAndType 15 16), (0, u "fencingNumber"), (0, u "J"), (0, .fieldref 8 18), (0, .nameAndType 19 20), (0, u "payloadDigest"), (0, u "[B"), (0, .fieldref 8 22), (0, .nameAndType 23 20), (0, u "outcome"), (0, .fieldref 25 26), (0, .class_ 27), (0, .nameAndType 28 12), (0, u "com/example/once_guard/onceguard/ClaimResult$State"), (0, u "CLAIMED"), (0, .methodref 8 30), (0, .nameAndType 5 31), (0, u "(Lcom/example/once_guard/onceguard/ClaimResult$State;J[B[B)V"), (0, .string 33), (0, u "payloadDigest must not be null"), (0, .methodref 35 36), (0, .class_ 37), (0, .nameAndType 38 39), (0, u "java/util/Objects"), (0, u "requireNonNull"), (0, u "(Ljava/lang/Object;Ljava/lang/String;)Ljava/lang/Object;"), (0, .fieldref 25 41), (0, .nameAndType 42 12), (0, u "IN_PROGRESS"), (0, .methodref 44 45), (0, .class_ 20), (0, .nameAndType 46 47), (0, u "clone"), (0, u "()Ljava/lang/Object;"), (27, u "inProgress"), (0, u "([B)Lcom/example/once_guard/onceguard/ClaimResult;"), (2, u "()Lcom/example/once_guard/onceguard/ClaimResult$State;"), (2, u "()[B")] 21

def k2c0 : Code := { maxStack := 3, maxLocals := 6, code := prog_2_method_1_code, exceptionTable := #[], attributes := #[] }
def k2m0 : Method := { name := "<init>", desc := "(Lcom/example/once_guard/onceguard/ClaimResult$State;J[B[B)V", sig := { parameters := [(.object "com/example/once_guard/onceguard/ClaimResult$State"), .long, (.array .byte), (.array .byte)], returnType := none }, accessFlags := 2, code := some k2c0 }
def k2c1 : Code := { maxStack := 7, maxLocals := 1, code := prog_2_method_3_code, exceptionTable := #[], attributes := #[] }
def k2m1 : Method := { name := "inProgress", desc := "([B)Lcom/example/once_guard/onceguard/ClaimResult;", sig := { parameters := [(.array .byte)], returnType := some (.object "com/example/once_guard/onceguard/ClaimResult") }, accessFlags := 9, code := some k2c1 }
def k2c2 : Code := { maxStack := 1, maxLocals := 1, code := prog_2_method_5_code, exceptionTable := #[], attributes := #[] }
def k2m2 : Method := { name := "state", desc := "()Lcom/example/once_guard/onceguard/ClaimResult$State;", sig := { parameters := [], returnType := some (.object "com/example/once_guard/onceguard/ClaimResult$State") }, accessFlags := 1, code := some k2c2 }
def k2c3 : Code := { maxStack := 3, maxLocals := 1, code := prog_2_method_7_code, exceptionTable := #[], attributes := #[] }
def k2m3 : Method := { name := "payloadDigest", desc := "()[B", sig := { parameters := [], returnType := some (.array .byte) }, accessFlags := 1, code := some k2c3 }
/-- com/example/once_guard/onceguard/ClaimResult -/
def k2 : Class := { plain "com/example/once_guard/onceguard/ClaimResult" (some 0) with
  accessFlags := 49
  interfaces := #[]
  cf := some (fileOf pool2 8 #[.nestMembers #[25]] #[{ accessFlags := 2, nameIndex := 5, descriptorIndex := 31, attributes := #[] }, { accessFlags := 9, nameIndex := 75, descriptorIndex := 76, attributes := #[] }, { accessFlags := 1, nameIndex := 11, descriptorIndex := 79, attributes := #[] }, { accessFlags := 1, nameIndex := 19, descriptorIndex := 82, attributes := #[] }] 49 2 #[] #[{ accessFlags := 18, nameIndex := 11, descriptorIndex := 12, attributes := #[] }, { accessFlags := 18, nameIndex := 15, descriptorIndex := 16, attributes := #[] }, { accessFlags := 18, nameIndex := 19, descriptorIndex := 20, attributes := #[] }, { accessFlags := 18, nameIndex := 23, descriptorIndex := 20, attributes := #[] }])
  fields := #[{ name := "state", type := (.object "com/example/once_guard/onceguard/ClaimResult$State"), accessFlags := 18, slot := 0, constantValue := 0 }, { name := "fencingNumber", type := .long, accessFlags := 18, slot := 1, constantValue := 0 }, { name := "payloadDigest", type := (.array .byte), accessFlags := 18, slot := 2, constantValue := 0 }, { name := "outcome", type := (.array .byte), accessFlags := 18, slot := 3, constantValue := 0 }]
  methods := #[k2m0, k2m1, k2m2, k2m3]
  instanceTypes := #[(.object "com/example/once_guard/onceguard/ClaimResult$State"), .long, (.array .byte), (.array .byte)]
  staticTypes := #[]
  resolved := Array.replicate 104 none
  statics := none }

def pool3 : Array CpInfo := pool [(1, .class_ 2), (0, u "java/io/Serializable"), (0, .class_ 4), (0, u "java/lang/Object")] 2

/-- java/io/Serializable -/
def k3 : Class := { plain "java/io/Serializable" (some 0) with
  accessFlags := 1537
  interfaces := #[]
  cf := some (fileOf pool3 1 #[] #[] 1537 3 #[] #[])
  fields := #[]
  methods := #[]
  instanceTypes := #[]
  staticTypes := #[]
  resolved := Array.replicate 7 none
  statics := none }

def pool4 : Array CpInfo := pool [(1, .class_ 2), (0, u "java/lang/Comparable"), (0, .class_ 4), (0, u "java/lang/Object")] 7

/-- java/lang/Comparable -/
def k4 : Class := { plain "java/lang/Comparable" (some 0) with
  accessFlags := 1537
  interfaces := #[]
  cf := some (fileOf pool4 1 #[] #[] 1537 3 #[] #[])
  fields := #[]
  methods := #[]
  instanceTypes := #[]
  staticTypes := #[]
  resolved := Array.replicate 12 none
  statics := none }

def pool5 : Array CpInfo := pool [(2, .class_ 4), (1, u "java/lang/CharSequence"), (42, .class_ 48), (0, u "java/lang/CharSequence$1CodePointIterator"), (10, .class_ 60), (0, u "java/lang/CharSequence$1CharIterator"), (5, .class_ 67), (0, u "java/lang/Object")] 63

/-- java/lang/CharSequence -/
def k5 : Class := { plain "java/lang/CharSequence" (some 0) with
  accessFlags := 1537
  interfaces := #[]
  cf := some (fileOf pool5 2 #[.nestMembers #[47, 59]] #[] 1537 66 #[] #[])
  fields := #[]
  methods := #[]
  instanceTypes := #[]
  staticTypes := #[]
  resolved := Array.replicate 131 none
  statics := none }

def pool6 : Array CpInfo := pool [(1, .class_ 2), (0, u "java/lang/constant/Constable"), (0, .class_ 4), (0, u "java/lang/Object")] 6

/-- java/lang/constant/Constable -/
def k6 : Class := { plain "java/lang/constant/Constable" (some 0) with
  accessFlags := 1537
  interfaces := #[]
  cf := some (fileOf pool6 1 #[] #[] 1537 3 #[] #[])
  fields := #[]
  methods := #[]
  instanceTypes := #[]
  staticTypes := #[]
  resolved := Array.replicate 11 none
  statics := none }

def pool7 : Array CpInfo := pool [(1, .class_ 2), (0, u "java/lang/constant/ConstantDesc"), (0, .class_ 4), (0, u "java/lang/Object")] 32

/-- java/lang/constant/ConstantDesc -/
def k7 : Class := { plain "java/lang/constant/ConstantDesc" (some 0) with
  accessFlags := 1537
  interfaces := #[]
  cf := some (fileOf pool7 1 #[] #[] 1537 3 #[] #[])
  fields := #[]
  methods := #[]
  instanceTypes := #[]
  staticTypes := #[]
  resolved := Array.replicate 37 none
  statics := none }

def pool8 : Array CpInfo := pool [(2, .class_ 4), (1, u "java/lang/Object"), (0, u "<init>"), (0, u "()V"), (3, .class_ 12), (1, u "java/lang/String"), (0, u "value"), (0, u "[B"), (2, u "coder"), (0, u "B"), (2, u "hash"), (0, u "I"), (2, u "hashIsZero"), (0, u "Z"), (13, u "COMPACT_STRINGS"), (534, .class_ 576), (0, u "java/lang/CharSequence"), (22, u "CASE_INSENSITIVE_ORDER"), (0, u "Ljava/util/Comparator;"), (500, u "serialPersistentFields"), (0, u "[Ljava/io/ObjectStreamField;"), (0, .class_ 1104), (0, u "java/lang/String$CaseInsensitiveComparator"), (1, .class_ 1107), (0, u "java/io/Serializable"), (0, .class_ 1109), (0, u "java/lang/Comparable"), (0, .class_ 1111), (0, u "java/lang/constant/Constable"), (0, .class_ 1113), (0, u "java/lang/constant/ConstantDesc"), (2, u "serialVersionUID"), (0, u "J"), (3, u "REPL"), (0, u "C"), (2, u "LATIN1"), (1, u "UTF16")] 323

def k8m0 : Method := { name := "<init>", desc := "()V", sig := { parameters := [], returnType := none }, accessFlags := 1, code := none }
/-- java/lang/String -/
def k8 : Class := { plain "java/lang/String" (some 0) with
  accessFlags := 49
  interfaces := #[3, 4, 5, 6, 7]
  cf := some (fileOf pool8 10 #[.nestMembers #[1103]] #[{ accessFlags := 1, nameIndex := 5, descriptorIndex := 6, attributes := #[] }] 49 2 #[1106, 1108, 575, 1110, 1112] #[{ accessFlags := 18, nameIndex := 13, descriptorIndex := 14, attributes := #[] }, { accessFlags := 18, nameIndex := 17, descriptorIndex := 18, attributes := #[] }, { accessFlags := 2, nameIndex := 21, descriptorIndex := 22, attributes := #[] }, { accessFlags := 2, nameIndex := 25, descriptorIndex := 26, attributes := #[] }, { accessFlags := 26, nameIndex := 1116, descriptorIndex := 1117, attributes := #[] }, { accessFlags := 24, nameIndex := 40, descriptorIndex := 26, attributes := #[] }, { accessFlags := 26, nameIndex := 1101, descriptorIndex := 1102, attributes := #[] }, { accessFlags := 26, nameIndex := 1121, descriptorIndex := 1122, attributes := #[] }, { accessFlags := 25, nameIndex := 599, descriptorIndex := 600, attributes := #[] }, { accessFlags := 24, nameIndex := 1125, descriptorIndex := 18, attributes := #[] }, { accessFlags := 24, nameIndex := 1127, descriptorIndex := 18, attributes := #[] }])
  fields := #[{ name := "value", type := (.array .byte), accessFlags := 18, slot := 0, constantValue := 0 }, { name := "coder", type := .byte, accessFlags := 18, slot := 1, constantValue := 0 }, { name := "hash", type := .int, accessFlags := 2, slot := 2, constantValue := 0 }, { name := "hashIsZero", type := .boolean, accessFlags := 2, slot := 3, constantValue := 0 }, { name := "serialVersionUID", type := .long, accessFlags := 26, slot := 0, constantValue := 0 }, { name := "COMPACT_STRINGS", type := .boolean, accessFlags := 24, slot := 1, constantValue := 0 }, { name := "serialPersistentFields", type := (.array (.object "java/io/ObjectStreamField")), accessFlags := 26, slot := 2, constantValue := 0 }, { name := "REPL", type := .char, accessFlags := 26, slot := 3, constantValue := 0 }, { name := "CASE_INSENSITIVE_ORDER", type := (.object "java/util/Comparator"), accessFlags := 25, slot := 4, constantValue := 0 }, { name := "LATIN1", type := .byte, accessFlags := 24, slot := 5, constantValue := 0 }, { name := "UTF16", type := .byte, accessFlags := 24, slot := 6, constantValue := 0 }]
  methods := #[k8m0]
  instanceTypes := #[(.array .byte), .byte, .int, .boolean]
  staticTypes := #[.long, .boolean, (.array (.object "java/io/ObjectStreamField")), .char, (.object "java/util/Comparator"), .byte, .byte]
  resolved := Array.replicate 1451 none
  statics := none }

def pool9 : Array CpInfo := pool [(2, .class_ 4), (1, u "java/lang/Object"), (0, u "<init>"), (0, u "()V"), (35, .class_ 44), (1, u "java/util/Objects"), (0, u "requireNonNull"), (48, u "(Ljava/lang/Object;Ljava/lang/String;)Ljava/lang/Object;")] 89

def k9m0 : Method := { name := "<init>", desc := "()V", sig := { parameters := [], returnType := none }, accessFlags := 2, code := none }
def k9c1 : Code := { maxStack := 3, maxLocals := 2, code := jdk_31_method_11_code, exceptionTable := #[], attributes := #[] }
def k9m1 : Method := { name := "requireNonNull", desc := "(Ljava/lang/Object;Ljava/lang/String;)Ljava/lang/Object;", sig := { parameters := [(.object "java/lang/Object"), (.object "java/lang/String")], returnType := some (.object "java/lang/Object") }, accessFlags := 9, code := some k9c1 }
/-- java/util/Objects -/
def k9 : Class := { plain "java/util/Objects" (some 0) with
  accessFlags := 49
  interfaces := #[]
  cf := some (fileOf pool9 42 #[] #[{ accessFlags := 2, nameIndex := 5, descriptorIndex := 6, attributes := #[] }, { accessFlags := 9, nameIndex := 45, descriptorIndex := 94, attributes := #[] }] 49 2 #[] #[])
  fields := #[]
  methods := #[k9m0, k9m1]
  instanceTypes := #[]
  staticTypes := #[]
  resolved := Array.replicate 184 none
  statics := none }

def pool10 : Array CpInfo := pool [(2, .class_ 4), (1, u "java/lang/Enum"), (0, u "name"), (0, u "Ljava/lang/String;"), (2, u "ordinal"), (0, u "I"), (1, .class_ 14), (1, u "java/lang/Object"), (4, u "hash"), (86, .class_ 108), (1, u "java/lang/Enum$EnumDesc"), (2, .class_ 112), (0, u "java/lang/constant/Constable"), (0, .class_ 114), (0, u "java/lang/Comparable"), (0, .class_ 116), (0, u "java/io/Serializable")] 87

/-- java/lang/Enum -/
def k10 : Class := { plain "java/lang/Enum" (some 0) with
  accessFlags := 1057
  interfaces := #[6, 4, 3]
  cf := some (fileOf pool10 2 #[.nestMembers #[106]] #[] 1057 12 #[111, 113, 115] #[{ accessFlags := 18, nameIndex := 5, descriptorIndex := 6, attributes := #[] }, { accessFlags := 18, nameIndex := 9, descriptorIndex := 10, attributes := #[] }, { accessFlags := 2, nameIndex := 19, descriptorIndex := 10, attributes := #[] }])
  fields := #[{ name := "name", type := (.object "java/lang/String"), accessFlags := 18, slot := 0, constantValue := 0 }, { name := "ordinal", type := .int, accessFlags := 18, slot := 1, constantValue := 0 }, { name := "hash", type := .int, accessFlags := 2, slot := 2, constantValue := 0 }]
  methods := #[]
  instanceTypes := #[(.object "java/lang/String"), .int, .int]
  staticTypes := #[]
  resolved := Array.replicate 204 none
  statics := none }

def pool11 : Array CpInfo := pool [(1, .class_ 2), (0, u "com/example/once_guard/onceguard/ClaimResult$State"), (2, u "CLAIMED"), (0, u "Lcom/example/once_guard/onceguard/ClaimResult$State;"), (2, u "IN_PROGRESS"), (2, u "COMPLETED"), (2, u "$VALUES"), (0, u "[Lcom/example/once_guard/onceguard/ClaimResult$State;"), (6, .class_ 25), (1, u "java/lang/Enum"), (26, .class_ 53), (0, u "com/example/once_guard/onceguard/ClaimResult")] 2

/-- com/example/once_guard/onceguard/ClaimResult$State -/
def k11 : Class := { plain "com/example/once_guard/onceguard/ClaimResult$State" (some 10) with
  accessFlags := 16433
  interfaces := #[]
  cf := some (fileOf pool11 1 #[.nestHost 52] #[] 16433 23 #[] #[{ accessFlags := 16409, nameIndex := 5, descriptorIndex := 6, attributes := #[] }, { accessFlags := 16409, nameIndex := 9, descriptorIndex := 6, attributes := #[] }, { accessFlags := 16409, nameIndex := 12, descriptorIndex := 6, attributes := #[] }, { accessFlags := 4122, nameIndex := 15, descriptorIndex := 16, attributes := #[] }])
  fields := #[{ name := "CLAIMED", type := (.object "com/example/once_guard/onceguard/ClaimResult$State"), accessFlags := 16409, slot := 0, constantValue := 0 }, { name := "IN_PROGRESS", type := (.object "com/example/once_guard/onceguard/ClaimResult$State"), accessFlags := 16409, slot := 1, constantValue := 0 }, { name := "COMPLETED", type := (.object "com/example/once_guard/onceguard/ClaimResult$State"), accessFlags := 16409, slot := 2, constantValue := 0 }, { name := "$VALUES", type := (.array (.object "com/example/once_guard/onceguard/ClaimResult$State")), accessFlags := 4122, slot := 3, constantValue := 0 }]
  methods := #[]
  instanceTypes := #[(.object "java/lang/String"), .int, .int]
  staticTypes := #[(.object "com/example/once_guard/onceguard/ClaimResult$State"), (.object "com/example/once_guard/onceguard/ClaimResult$State"), (.object "com/example/once_guard/onceguard/ClaimResult$State"), (.array (.object "com/example/once_guard/onceguard/ClaimResult$State"))]
  resolved := Array.replicate 56 none
  statics := some 0 }

def pool12 : Array CpInfo := pool [(1, .class_ 2), (0, u "java/lang/Cloneable"), (0, .class_ 4), (0, u "java/lang/Object")] 2

/-- java/lang/Cloneable -/
def k12 : Class := { plain "java/lang/Cloneable" (some 0) with
  accessFlags := 1537
  interfaces := #[]
  cf := some (fileOf pool12 1 #[] #[] 1537 3 #[] #[])
  fields := #[]
  methods := #[]
  instanceTypes := #[]
  staticTypes := #[]
  resolved := Array.replicate 7 none
  statics := none }

/-- the primitive byte -/
def k13 : Class := { plain "byte" none with kind := .primitive 'B', accessFlags := 0x411 }
/-- [B -/
def k14 : Class := { plain "[B" (some 0) with kind := .array 13 .byte, interfaces := #[12, 3], accessFlags := 1041 }

/-- the primitive int -/
def k15 : Class := { plain "int" none with kind := .primitive 'I', accessFlags := 0x411 }
/-- [I -/
def k16 : Class := { plain "[I" (some 0) with kind := .array 15 .int, interfaces := #[12, 3], accessFlags := 1041 }

def heap : Heap := #[{ cls := 11, slots := #[.ref 2, .ref 1, .null, .null], vm := .statics 11 },
  { cls := 11, slots := #[.null, .int 1, .int 0], vm := .none },
  { cls := 11, slots := #[.null, .int 0, .int 0], vm := .none }]
def classes : Array Class := #[k0, k1, k2, k3, k4, k5, k6, k7, k8, k9, k10, k11, k12, k13, k14, k15, k16]
def interned : List (Array UInt16 × Addr) := []
def slotsUsed : Nat := 10
def theMethod : MethodId := ⟨1, 1⟩
def args0 : Array Value := #[.int 5, .int 5]
def aboutOver (below : List Frame) : State where
  vm := { classes := classes, interned := interned.toArray }
  heap := heap
  slotsUsed := slotsUsed
  threads := #[{ frames := .invoking theMethod args0 :: below }]
def below0 : List Frame := [.native { method := ⟨0, 0⟩, args := #[] }]
def about1 : State := aboutOver below0
def p0 : Program := .bare "" "" ""
def e0 : Env := launch0.env 0 0 0
theorem w_frames : about1.frames = Frame.invoking theMethod args0 :: below0 := rfl
set_option maxRecDepth 65536 in
theorem w_args : argsFit about1.vm theMethod args0 = true := by decide +kernel
set_option maxRecDepth 65536 in
theorem w_heap : heapFits about1 = true := by decide +kernel
set_option maxRecDepth 65536 in
theorem w_runnable : about1.curStatus? = some .runnable := by decide +kernel
set_option maxRecDepth 65536 in
theorem w_alone : about1.alone = true := by decide +kernel
set_option maxRecDepth 65536 in
theorem w_named : about1.methodNamed? x = some theMethod := by decide +kernel
set_option maxRecDepth 65536 in
theorem w_hears : about1.hears theMethod below0 = true := by decide +kernel
set_option maxRecDepth 65536 in
theorem w_ripe : about1.ripe theMethod args0 below0 = true := by decide +kernel
theorem w_running : about1.status = .running := rfl
set_option maxRecDepth 65536 in
theorem w_room : about1.hasRoom e0.platform room_1 = true :=
  launch0.hasRoom_least _ room_1 (by decide +kernel) (by decide +kernel) (by decide +kernel) (by decide +kernel) (by decide +kernel) (by decide +kernel)
theorem allAtoms_all (ts : List Jvm.Cond) (a : Array Jvm.Value) (st : Jvm.State) : (allAtoms ts).before a st = ts.all (fun c => c.before a st) := by
  induction ts with
  | nil => rfl
  | cons c t ih =>
    show (Jvm.Cond.and c (allAtoms t)).before a st = _
    rw [Jvm.Cond.before_and, ih, List.all_cons]
def words1 : List Jvm.Cond := Jvm.Cond.code x code maxLocals ret :: tables_1
/-- a 'code' word, met by the world's own term for the bytes: nothing is compared byte by byte -/
theorem code_word {y : MethodName} {bytes : ByteArray} {mx : Nat} {rt : Option FieldType} {a : Array Value} {s : State} {m : MethodId} {meth : Method} {c : Code} (h1 : s.methodNamed? y = some m) (h2 : s.vm.method? m = some meth) (h3 : meth.code = some c) (h4 : c.code = bytes)
    (h5 : (c.maxLocals == mx && c.exceptionTable.isEmpty && decide (c.maxStack ≤ mostOperands) && decide (meth.sig.returnType = rt) && !meth.locks && decide (parseMethodDescriptor y.desc = some meth.sig)) = true) : (Jvm.Cond.code y bytes mx rt).before a s = true := by
  simp only [Bool.and_eq_true, beq_iff_eq, Bool.not_eq_true', decide_eq_true_eq] at h5
  obtain ⟨⟨⟨⟨⟨g1, g2⟩, g3⟩, g4⟩, g5⟩, g6⟩ := h5
  simp [Cond.before, Cond.holds, Cond.value, h1, h2, h3, h4, g1, g2, g3, g4, g5, g6]
def isCode : Jvm.Cond → Bool
  | .code _ _ _ _ => true
  | _ => false
theorem all_split {L : List Jvm.Cond} {P : Jvm.Cond → Bool} (h1 : L.all (fun c => isCode c || P c) = true) (h2 : ∀ c ∈ L.filter isCode, P c = true) : L.all P = true := by
  refine List.all_eq_true.mpr fun c hc => ?_
  have h := List.all_eq_true.mp h1 c hc
  rcases Bool.eq_false_or_eq_true (isCode c) with hi | hi
  · exact h2 c (List.mem_filter.mpr ⟨hc, hi⟩)
  · simpa [hi] using h
set_option maxRecDepth 65536 in
theorem w_c0 : (Jvm.Cond.code x code maxLocals ret).before args0 about1 = true := code_word (m := ⟨1, 1⟩) (meth := k1m1) (c := k1c1) (by decide +kernel) rfl rfl rfl (by decide +kernel)
set_option maxRecDepth 65536 in
theorem w_c1 : (Jvm.Cond.code ({ cls := "com/example/once_guard/onceguard/ClaimResult", name := "inProgress", desc := "([B)Lcom/example/once_guard/onceguard/ClaimResult;" } : Jvm.MethodName) prog_2_method_3_code (1 : Nat) (Option.some (Jvm.ClassFile.FieldType.object "com/example/once_guard/onceguard/ClaimResult"))).before args0 about1 = true := code_word (m := ⟨2, 1⟩) (meth := k2m1) (c := k2c1) (by decide +kernel) rfl rfl rfl (by decide +kernel)
set_option maxRecDepth 65536 in
theorem w_c2 : (Jvm.Cond.code ({ cls := "java/util/Objects", name := "requireNonNull", desc := "(Ljava/lang/Object;Ljava/lang/String;)Ljava/lang/Object;" } : Jvm.MethodName) jdk_31_method_11_code (2 : Nat) (Option.some (Jvm.ClassFile.FieldType.object "java/lang/Object"))).before args0 about1 = true := code_word (m := ⟨9, 1⟩) (meth := k9m1) (c := k9c1) (by decide +kernel) rfl rfl rfl (by decide +kernel)
set_option maxRecDepth 65536 in
theorem w_c3 : (Jvm.Cond.code ({ cls := "com/example/once_guard/onceguard/ClaimResult", name := "<init>", desc := "(Lcom/example/once_guard/onceguard/ClaimResult$State;J[B[B)V" } : Jvm.MethodName) prog_2_method_1_code (6 : Nat) (Option.none : Option Jvm.ClassFile.FieldType)).before args0 about1 = true := code_word (m := ⟨2, 0⟩) (meth := k2m0) (c := k2c0) (by decide +kernel) rfl rfl rfl (by decide +kernel)
set_option maxRecDepth 65536 in
theorem w_c4 : (Jvm.Cond.code ({ cls := "java/lang/Object", name := "<init>", desc := "()V" } : Jvm.MethodName) object_method_1_code (1 : Nat) (Option.none : Option Jvm.ClassFile.FieldType)).before args0 about1 = true := code_word (m := ⟨0, 0⟩) (meth := k0m0) (c := k0c0) (by decide +kernel) rfl rfl rfl (by decide +kernel)
set_option maxRecDepth 65536 in
theorem w_c5 : (Jvm.Cond.code ({ cls := "com/example/once_guard/onceguard/ClaimResult", name := "state", desc := "()Lcom/example/once_guard/onceguard/ClaimResult$State;" } : Jvm.MethodName) prog_2_method_5_code (1 : Nat) (Option.some (Jvm.ClassFile.FieldType.object "com/example/once_guard/onceguard/ClaimResult$State"))).before args0 about1 = true := code_word (m := ⟨2, 2⟩) (meth := k2m2) (c := k2c2) (by decide +kernel) rfl rfl rfl (by decide +kernel)
set_option maxRecDepth 65536 in
theorem w_c6 : (Jvm.Cond.code ({ cls := "com/example/once_guard/onceguard/ClaimResult", name := "payloadDigest", desc := "()[B" } : Jvm.MethodName) prog_2_method_7_code (1 : Nat) (Option.some (Jvm.ClassFile.FieldType.array Jvm.ClassFile.FieldType.byte))).before args0 about1 = true := code_word (m := ⟨2, 3⟩) (meth := k2m3) (c := k2c3) (by decide +kernel) rfl rfl rfl (by decide +kernel)
set_option maxRecDepth 65536 in
theorem w_c7 : (Jvm.Cond.code ({ cls := "com/example/once_guard/onceguard/ClaimResultInProgressPinLaw", name := "same", desc := "([BIBBBB)Z" } : Jvm.MethodName) method_3_code (6 : Nat) (Option.some Jvm.ClassFile.FieldType.boolean)).before args0 about1 = true := code_word (m := ⟨1, 2⟩) (meth := k1m2) (c := k1c2) (by decide +kernel) rfl rfl rfl (by decide +kernel)
def codes1 : List Jvm.Cond := [Jvm.Cond.code x code maxLocals ret, Jvm.Cond.code ({ cls := "com/example/once_guard/onceguard/ClaimResult", name := "inProgress", desc := "([B)Lcom/example/once_guard/onceguard/ClaimResult;" } : Jvm.MethodName) prog_2_method_3_code (1 : Nat) (Option.some (Jvm.ClassFile.FieldType.object "com/example/once_guard/onceguard/ClaimResult")), Jvm.Cond.code ({ cls := "java/util/Objects", name := "requireNonNull", desc := "(Ljava/lang/Object;Ljava/lang/String;)Ljava/lang/Object;" } : Jvm.MethodName) jdk_31_method_11_code (2 : Nat) (Option.some (Jvm.ClassFile.FieldType.object "java/lang/Object")), Jvm.Cond.code ({ cls := "com/example/once_guard/onceguard/ClaimResult", name := "<init>", desc := "(Lcom/example/once_guard/onceguard/ClaimResult$State;J[B[B)V" } : Jvm.MethodName) prog_2_method_1_code (6 : Nat) (Option.none : Option Jvm.ClassFile.FieldType), Jvm.Cond.code ({ cls := "java/lang/Object", name := "<init>", desc := "()V" } : Jvm.MethodName) object_method_1_code (1 : Nat) (Option.none : Option Jvm.ClassFile.FieldType), Jvm.Cond.code ({ cls := "com/example/once_guard/onceguard/ClaimResult", name := "state", desc := "()Lcom/example/once_guard/onceguard/ClaimResult$State;" } : Jvm.MethodName) prog_2_method_5_code (1 : Nat) (Option.some (Jvm.ClassFile.FieldType.object "com/example/once_guard/onceguard/ClaimResult$State")), Jvm.Cond.code ({ cls := "com/example/once_guard/onceguard/ClaimResult", name := "payloadDigest", desc := "()[B" } : Jvm.MethodName) prog_2_method_7_code (1 : Nat) (Option.some (Jvm.ClassFile.FieldType.array Jvm.ClassFile.FieldType.byte)), Jvm.Cond.code ({ cls := "com/example/once_guard/onceguard/ClaimResultInProgressPinLaw", name := "same", desc := "([BIBBBB)Z" } : Jvm.MethodName) method_3_code (6 : Nat) (Option.some Jvm.ClassFile.FieldType.boolean)]
set_option maxRecDepth 65536 in
theorem codes_eq : words1.filter isCode = codes1 := rfl
theorem w_codes : ∀ c ∈ words1.filter isCode, c.before args0 about1 = true := by
  rw [codes_eq]
  intro c hc
  simp only [codes1, List.mem_cons, List.not_mem_nil, or_false] at hc
  rcases hc with rfl | rfl | rfl | rfl | rfl | rfl | rfl | rfl
  · exact w_c0
  · exact w_c1
  · exact w_c2
  · exact w_c3
  · exact w_c4
  · exact w_c5
  · exact w_c6
  · exact w_c7
set_option maxRecDepth 65536 in
theorem w_t1 : (words1.take 24).all (fun c => isCode c || c.before args0 about1) = true := by decide +kernel
set_option maxRecDepth 65536 in
theorem w_t2 : ((words1.drop 24).take 24).all (fun c => isCode c || c.before args0 about1) = true := by decide +kernel
set_option maxRecDepth 65536 in
theorem w_t3 : ((words1.drop 24).drop 24).all (fun c => isCode c || c.before args0 about1) = true := by decide +kernel
theorem w_tables : (allAtoms (Jvm.Cond.code x code maxLocals ret :: tables_1)).before args0 about1 = true := by
  rw [allAtoms_all]
  show words1.all (fun c => c.before args0 about1) = true
  refine all_split ?_ w_codes
  rw [← List.take_append_drop 24 words1, List.all_append, w_t1, ← List.take_append_drop 24 (words1.drop 24), List.all_append, w_t2, w_t3]
  rfl
set_option maxRecDepth 65536 in
theorem w_case : (Jvm.Cond.and given_1 narrow_1).before args0 about1 = true := by decide +kernel
theorem w_applies : (headSpec (Jvm.Cond.code x code maxLocals ret :: tables_1) room_1).applies x e0.platform about1 = true :=
  (Spec.applies_iff w_frames).mpr ⟨w_running, w_runnable, w_alone, w_named, w_hears, w_ripe, w_room, w_tables⟩
theorem atStart : AtStart classFile x code maxLocals ret World_1 tables_1 room_1 Calls_1 rest_1 Pre_1 launch0 p0 e0 about1 theMethod args0 below0 :=
  ⟨lists_1, trivial, launch0.admits_env _ _ _, launch0.least_env, fairChoices_fair.cas, fairChoices_fair.clock, w_frames, w_args, w_heap, w_applies, trivial, trivial, w_case⟩
end start1
theorem witness_1 : WitnessClaimed_1 := ⟨start1.p0, start1.e0, start1.about1, start1.theMethod, start1.args0, start1.below0, start1.atStart⟩
end Jvm.Pilot.@@N@@
