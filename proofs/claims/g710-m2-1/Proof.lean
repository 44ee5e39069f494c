import JvmDerived
import JvmDerived.Pilot.@@N@@Statement
import JvmDerived.Pilot.@@N@@Code
set_option linter.unusedVariables false
set_option linter.unusedSimpArgs false
@@BLOCK:NumsL.lean.txt@@
namespace Jvm.OwnW
open Sem ClassFile Op Lib Jvm.Stand Jvm.Free Jvm.LawKit Jvm.RoadKit
section Own
variable {p : Program} {l : Launch} {e : Env} {R : Room} {s : State} {m : MethodId} {args : Array Value} {below : List Frame} {meth : Method} {c : Code} {T : State} {locs : List Loc} {cells slots : Nat} {K N : Nat} {Q : Option Value → Heap → List Loc → Prop}
/-- from U the run comes to the method's end, and what it leaves there is Q -/
def OwnEnds (tb : Tables) (e : Env) (below : List Frame) (s : State) (K N : Nat) (Q : Option Value → Heap → List Loc → Prop) (U : State) : Prop :=
  ∃ s₂ o, Steps tb e below U s₂ ∧ s₂.status = .running ∧ Ended s₂ below o ∧ ∃ v L, o = .returned v ∧ Q v s₂.heap L ∧ FrameEnd s o s₂ L K N
theorem ogo {tb : Tables} {U U' : State} (st : ∀ t, Steps tb e below U' t → Steps tb e below U t) (h : OwnEnds tb e below s K N Q U') : OwnEnds tb e below s K N Q U := by
  obtain ⟨s₂, o, h1, h2⟩ := h
  exact ⟨s₂, o, st _ h1, h2⟩
theorem endR (X : Stand p l e R s m args below meth c T locs cells slots) (hx : p.tables.exec = Jvm.exec) (hlk : meth.locks = false) {pc : Nat} {Ls : Array Slot} {w : Value} {t : FieldType} {i : Instr} {rest : List Value} (hret : meth.sig.returnType = some t) (hn : narrow t w = w)
    (hi : (i = .ireturn ∧ (t = .int ∨ t = .boolean ∨ t = .byte ∨ t = .char ∨ t = .short) ∧ ∃ z, w = .int z) ∨ (i = .lreturn ∧ t = .long ∧ ∃ z, w = .long z) ∨ (i = .dreturn ∧ t = .double ∧ ∃ z, w = .double z) ∨ (i = .freturn ∧ t = .float ∧ ∃ z, w = .float z) ∨ (i = .areturn ∧ t.isReference = true ∧ w.isRef = true))
    (hd : decode c.code pc = .ok (i, 1)) (hK : cells ≤ K) (hN : slots ≤ N) (hQ : Q (some w) T.heap locs) : OwnEnds p.tables e below s K N Q (T.setTop (mkF m pc Ls (w :: rest))) := by
  obtain ⟨fs, hr, hrun, hended, hW, hsame⟩ := X.leave (v := some w) (fun h => by rw [hret] at h; cases h) hlk
  exact ⟨_, _, retOut X hx hret hn hi hd hr, hrun, hended, _, _, rfl, hQ, ⟨_, rfl⟩, hW, hsame.mono hK hN⟩
theorem endI (X : Stand p l e R s m args below meth c T locs cells slots) (hx : p.tables.exec = Jvm.exec) (hlk : meth.locks = false) {pc : Nat} {Ls : Array Slot} {z : Int32} {rest : List Value} (hret : meth.sig.returnType = some .int)
    (hd : decode c.code pc = .ok (.ireturn, 1)) (hK : cells ≤ K) (hN : slots ≤ N) (hQ : Q (some (.int z)) T.heap locs) : OwnEnds p.tables e below s K N Q (T.setTop (mkF m pc Ls (.int z :: rest))) :=
  endR X hx hlk hret rfl (Or.inl ⟨rfl, Or.inl rfl, z, rfl⟩) hd hK hN hQ
theorem endZ (X : Stand p l e R s m args below meth c T locs cells slots) (hx : p.tables.exec = Jvm.exec) (hlk : meth.locks = false) {pc : Nat} {Ls : Array Slot} {z : Int32} {rest : List Value} (hret : meth.sig.returnType = some .boolean) (hn : narrow .boolean (.int z) = .int z)
    (hd : decode c.code pc = .ok (.ireturn, 1)) (hK : cells ≤ K) (hN : slots ≤ N) (hQ : Q (some (.int z)) T.heap locs) : OwnEnds p.tables e below s K N Q (T.setTop (mkF m pc Ls (.int z :: rest))) :=
  endR X hx hlk hret hn (Or.inl ⟨rfl, Or.inr (Or.inl rfl), z, rfl⟩) hd hK hN hQ
theorem endJ (X : Stand p l e R s m args below meth c T locs cells slots) (hx : p.tables.exec = Jvm.exec) (hlk : meth.locks = false) {pc : Nat} {Ls : Array Slot} {z : Int64} {rest : List Value} (hret : meth.sig.returnType = some .long)
    (hd : decode c.code pc = .ok (.lreturn, 1)) (hK : cells ≤ K) (hN : slots ≤ N) (hQ : Q (some (.long z)) T.heap locs) : OwnEnds p.tables e below s K N Q (T.setTop (mkF m pc Ls (.long z :: rest))) :=
  endR X hx hlk hret rfl (Or.inr (Or.inl ⟨rfl, rfl, z, rfl⟩)) hd hK hN hQ
theorem endA (X : Stand p l e R s m args below meth c T locs cells slots) (hx : p.tables.exec = Jvm.exec) (hlk : meth.locks = false) {pc : Nat} {Ls : Array Slot} {w : Value} {t : FieldType} {rest : List Value} (hret : meth.sig.returnType = some t) (ht : t.isReference = true) (hw : w.isRef = true)
    (hd : decode c.code pc = .ok (.areturn, 1)) (hK : cells ≤ K) (hN : slots ≤ N) (hQ : Q (some w) T.heap locs) : OwnEnds p.tables e below s K N Q (T.setTop (mkF m pc Ls (w :: rest))) :=
  endR X hx hlk hret (by rcases ref_cases hw with rfl | ⟨a, rfl⟩ <;> cases t <;> simp_all [narrow, FieldType.isReference]) (Or.inr (Or.inr (Or.inr (Or.inr ⟨rfl, ht, hw⟩)))) hd hK hN hQ
theorem endV (X : Stand p l e R s m args below meth c T locs cells slots) (hx : p.tables.exec = Jvm.exec) (hlk : meth.locks = false) {pc : Nat} {Ls : Array Slot} (hret : meth.sig.returnType = none)
    (hd : decode c.code pc = .ok (.return_, 1)) (hK : cells ≤ K) (hN : slots ≤ N) (hQ : Q none T.heap locs) : OwnEnds p.tables e below s K N Q (T.setTop (mkF m pc Ls [])) := by
  obtain ⟨fs, hr, hrun, hended, hW, hsame⟩ := X.leave (v := none) (fun _ => rfl) hlk
  exact ⟨_, _, X.returnOut hx hret hd hr, hrun, hended, _, _, rfl, hQ, ⟨_, rfl⟩, hW, hsame.mono hK hN⟩
end Own
end Jvm.OwnW
namespace Jvm.Pilot.@@N@@
open Jvm Jvm.ClassFile Sem Op Lib Jvm.Free Jvm.Stand Jvm.LawKit Jvm.RoadKit Jvm.OwnW Bundle Jvm.Pilot.@@N@@.Jvm.D
theorem own_cat {v : Value} (h : v.isRef = true) : v.category = 1 := by rcases ref_cases h with rfl | ⟨a, rfl⟩ <;> rfl
theorem own_ite {q : Prop} [Decidable q] {a b : Value} (ha : a.isRef = true) (hb : b.isRef = true) : (if q then a else b).isRef = true := by split <;> assumption
theorem own_fld {args : Array Value} {s : State} {t : Term} {C n d : String} {k : Int32} {a : Addr} (h : (Cond.eq (.field t C n d) (.int k)).value args s none s [] = some true) (ev : t.eval args s none [] s = some (.ref a)) : Fld s s.heap a C n d (.int k) := by
  obtain ⟨x, y, e1, e2, -, -⟩ := cmp_v (Or.inl h)
  have e3 : y = .int k := (Option.some.inj (e2.symm.trans (Term.int_eval k)))
  subst e3
  have e4 : s.fieldOf? a C n d = some x := by simpa [Term.eval, ev] using e1
  cases x <;> simp [Cond.value, e1, e2] at h
  subst h
  exact Fld.start e4
theorem own_narb (x : Int32) : nar .byte x.toInt8.toInt32 = x.toInt8.toInt32 := by simp [nar]
def Av (Z : State) (h : Heap) (a : Addr) (ty : FieldType) (z : Int32) (vs : List Value) (d : Value) : Prop := ∃ k, Arv Z h a k ty z vs d
theorem Av.ext {Z : State} {h h' : Heap} {a : Addr} {ty : FieldType} {z : Int32} {vs : List Value} {d : Value} (F : Av Z h a ty z vs d) (E : Ext h h') : Av Z h' a ty z vs d := by obtain ⟨k, F⟩ := F; exact ⟨k, F.ext E⟩
theorem Av.other {Z : State} {h h' : Heap} {a b : Addr} {ty : FieldType} {z : Int32} {vs : List Value} {d v : Value} {sl : Nat} (F : Av Z h a ty z vs d) (W : Wr h h' b sl v) (q : a ≠ b) : Av Z h' a ty z vs d := by obtain ⟨k, F⟩ := F; exact ⟨k, F.other W q⟩
theorem Av.keep {Z : State} {h h' : Heap} {a : Addr} {ty : FieldType} {z : Int32} {vs : List Value} {d : Value} {ws : List Addr} (F : Av Z h a ty z vs d) (K : Keep h h' ws) (q : a ∉ ws) : Av Z h' a ty z vs d := by obtain ⟨k, F⟩ := F; exact ⟨k, F.keep K q⟩
theorem Av.lt {Z : State} {h : Heap} {a : Addr} {ty : FieldType} {z : Int32} {vs : List Value} {d : Value} (F : Av Z h a ty z vs d) : a < h.size := by obtain ⟨k, F⟩ := F; exact F.lt
section OwnCold
variable {p : Program} {l : Launch} {e : Env} {R : Room} {s : State} {m : MethodId} {args : Array Value} {below : List Frame} {meth : Method} {c : Code} {T : State} {locs : List Loc} {cells slots : Nat} {K N : Nat} {Q : Option Value → Heap → List Loc → Prop}
def OwnEndsW (tb : Tables) (e : Env) (below : List Frame) (s : State) (K N : Nat) (Q : Option Value → Heap → List Loc → Prop) (U : State) : Prop :=
  ∃ s₂ o, Steps tb e below U s₂ ∧ s₂.status = .running ∧ Ended s₂ below o ∧ ∃ v L, o = .returned v ∧ Q v s₂.heap L ∧ ReturnedEndW s o s₂ L K N
theorem ogoW {tb : Tables} {U U' : State} (st : ∀ t, Steps tb e below U' t → Steps tb e below U t) (h : OwnEndsW tb e below s K N Q U') : OwnEndsW tb e below s K N Q U := by
  obtain ⟨s₂, o, h1, h2⟩ := h
  exact ⟨s₂, o, st _ h1, h2⟩
theorem endRW {vm₁ : Vm} {n : Nat} (X : Stand p l e R (s.setVm vm₁) m args below meth c T locs cells slots) (hS : s.Since vm₁ n) (hsn : n ≤ T.heap.size) (hx : p.tables.exec = Jvm.exec) (hlk : meth.locks = false) {pc : Nat} {Ls : Array Slot} {w : Value} {t : FieldType} {i : Instr} {rest : List Value} (hret : meth.sig.returnType = some t) (hn : narrow t w = w)
    (hi : (i = .ireturn ∧ (t = .int ∨ t = .boolean ∨ t = .byte ∨ t = .char ∨ t = .short) ∧ ∃ z, w = .int z) ∨ (i = .lreturn ∧ t = .long ∧ ∃ z, w = .long z) ∨ (i = .dreturn ∧ t = .double ∧ ∃ z, w = .double z) ∨ (i = .freturn ∧ t = .float ∧ ∃ z, w = .float z) ∨ (i = .areturn ∧ t.isReference = true ∧ w.isRef = true))
    (hd : decode c.code pc = .ok (i, 1)) (hK : cells ≤ K) (hN : slots ≤ N) (hQ : Q (some w) T.heap locs) : OwnEndsW p.tables e below s K N Q (T.setTop (mkF m pc Ls (w :: rest))) := by
  obtain ⟨fs, hr, hrun, hended, h1, h2, h3, h4⟩ := X.leaveW hS hsn (v := some w) (fun h => by rw [hret] at h; cases h) hlk
  exact ⟨_, _, retOut X hx hret hn hi hd hr, hrun, hended, _, _, rfl, hQ, h1, h2, h3, h4.mono hK hN⟩
theorem endZW {vm₁ : Vm} {n : Nat} (X : Stand p l e R (s.setVm vm₁) m args below meth c T locs cells slots) (hS : s.Since vm₁ n) (hsn : n ≤ T.heap.size) (hx : p.tables.exec = Jvm.exec) (hlk : meth.locks = false) {pc : Nat} {Ls : Array Slot} {z : Int32} {rest : List Value} (hret : meth.sig.returnType = some .boolean) (hn : narrow .boolean (.int z) = .int z)
    (hd : decode c.code pc = .ok (.ireturn, 1)) (hK : cells ≤ K) (hN : slots ≤ N) (hQ : Q (some (.int z)) T.heap locs) : OwnEndsW p.tables e below s K N Q (T.setTop (mkF m pc Ls (.int z :: rest))) :=
  endRW X hS hsn hx hlk hret hn (Or.inl ⟨rfl, Or.inr (Or.inl rfl), z, rfl⟩) hd hK hN hQ
theorem endAW {vm₁ : Vm} {n : Nat} (X : Stand p l e R (s.setVm vm₁) m args below meth c T locs cells slots) (hS : s.Since vm₁ n) (hsn : n ≤ T.heap.size) (hx : p.tables.exec = Jvm.exec) (hlk : meth.locks = false) {pc : Nat} {Ls : Array Slot} {w : Value} {t : FieldType} {rest : List Value} (hret : meth.sig.returnType = some t) (ht : t.isReference = true) (hw : w.isRef = true)
    (hd : decode c.code pc = .ok (.areturn, 1)) (hK : cells ≤ K) (hN : slots ≤ N) (hQ : Q (some w) T.heap locs) : OwnEndsW p.tables e below s K N Q (T.setTop (mkF m pc Ls (w :: rest))) :=
  endRW X hS hsn hx hlk hret (by rcases ref_cases hw with rfl | ⟨a, rfl⟩ <;> cases t <;> simp_all [narrow, FieldType.isReference]) (Or.inr (Or.inr (Or.inr (Or.inr ⟨rfl, ht, hw⟩)))) hd hK hN hQ
theorem own_since0 (s : State) : s.Since s.vm 0 := ⟨State.Warmed39.refl s, fun j p hj hp => absurd (Array.getElem?_eq_some_iff.mp hp).1 (Nat.not_lt.mpr hj)⟩
end OwnCold
theorem own_rng (x n : Int32) (hn : 0 < n.toInt) : 0 ≤ ((x &&& 2147483647) % n).toInt ∧ ((x &&& 2147483647) % n).toInt < n.toInt := by
  have e1 : (x &&& 2147483647).toInt = x.toInt % 2 ^ 31 := Jvm.Kit.i32_mask x 2147483647 (k := 31) (by decide) (by decide)
  have e2 := Jvm.Kit.i32_rem_nonneg (x := x &&& 2147483647) (y := n) (by omega)
  rw [e2]
  exact ⟨Int.emod_nonneg _ (by omega), Int.emod_lt_of_pos _ hn⟩
theorem own_case4 {k : Int32} (h : 0 ≤ k.toInt ∧ k.toInt < 4) : k = 0 ∨ k = 1 ∨ k = 2 ∨ k = 3 := by
  rcases (by omega : k.toInt = 0 ∨ k.toInt = 1 ∨ k.toInt = 2 ∨ k.toInt = 3) with q | q | q | q
  · exact Or.inl (Int32.toInt_inj.mp (q.trans (by decide)))
  · exact Or.inr (Or.inl (Int32.toInt_inj.mp (q.trans (by decide))))
  · exact Or.inr (Or.inr (Or.inl (Int32.toInt_inj.mp (q.trans (by decide)))))
  · exact Or.inr (Or.inr (Or.inr ((Int32.toInt_inj.mp (q.trans (by decide))))))

theorem own_str {Z : State} {a0 : Array Value} (hw : ∀ d ∈ tables_1, d.before a0 Z = true) : ∀ a ∈ Bundle.stringAtoms, a.before a0 Z = true := by
  intro a ha
  simp only [Bundle.stringAtoms, List.mem_cons, List.not_mem_nil, or_false] at ha
  rcases ha with rfl | rfl | rfl | rfl | rfl | rfl | rfl
  · exact (hw _ (List.mem_of_getElem? (i := 13) rfl))
  · exact (hw _ (List.mem_of_getElem? (i := 14) rfl))
  · exact (hw _ (List.mem_of_getElem? (i := 7) rfl))
  · exact (hw _ (List.mem_of_getElem? (i := 15) rfl))
  · exact (hw _ (List.mem_of_getElem? (i := 16) rfl))
  · exact (hw _ (List.mem_of_getElem? (i := 17) rfl))
  · exact (hw _ (List.mem_of_getElem? (i := 18) rfl))
theorem own_and3 (x : Int32) : 0 ≤ (x &&& 3).toInt ∧ (x &&& 3).toInt < 4 := by
  have e : (x &&& 3).toInt = x.toInt % 2 ^ 2 := Jvm.Kit.i32_mask x 3 (k := 2) (by decide) (by decide)
  omega
def own_len (p : Int32) : Int32 := ((p.toUInt32 >>> ((24 : Int32) &&& 31).toUInt32).toInt32) &&& 3
def own_bs (p : Int32) : List Value := [.int (p.toInt8.toInt32), .int (((p.toUInt32 >>> ((8 : Int32) &&& 31).toUInt32).toInt32).toInt8.toInt32), .int (((p.toUInt32 >>> ((16 : Int32) &&& 31).toUInt32).toInt32).toInt8.toInt32)]
theorem own_lenb (p : Int32) : 0 ≤ (own_len p).toInt ∧ (own_len p).toInt < 4 := own_and3 _
theorem own_len_cap (p : Int32) : (own_len p).toNatClampNeg ≤ 4 := by
  have h := own_and3 ((p.toUInt32 >>> ((24 : Int32) &&& 31).toUInt32).toInt32)
  show (own_len p).toInt.toNat ≤ 4
  have e : own_len p = ((p.toUInt32 >>> ((24 : Int32) &&& 31).toUInt32).toInt32) &&& 3 := rfl
  rw [e]
  omega
theorem own_bs_int (p : Int32) : ∀ i, ∃ x : Int32, (own_bs p).getD i (.int (0 : Int32)) = .int x := by
  intro i
  rcases i with _ | _ | _ | i
  · exact ⟨_, rfl⟩
  · exact ⟨_, rfl⟩
  · exact ⟨_, rfl⟩
  · exact ⟨0, rfl⟩
theorem Av.more {Z : State} {h : Heap} {a : Addr} {ty : FieldType} {z : Int32} {vs vs' : List Value} {d : Value} (F : Av Z h a ty z vs d) (q : ∀ i, i < z.toNatClampNeg → vs'.getD i d = vs.getD i d) : Av Z h a ty z vs' d := by
  obtain ⟨k, c, A, r1, r2, r3, H, G⟩ := F
  exact ⟨k, c, A, r1, r2, r3, fun i hi => by rw [q i (r2 ▸ hi)]; exact H i hi, fun i hi => by rw [q i (r2 ▸ hi)]; exact G i hi⟩
theorem own_pos {z : Int32} (h : 0 < z) : z ≠ 0 := fun e => by rw [e] at h; exact absurd h (by decide)
theorem own_remb (x : Int32) {z : Int32} (h : 0 < z) : ¬ ((x &&& 3) % z) < 0 ∧ ((x &&& 3) % z) < z := by
  have a := own_and3 x
  have e := Jvm.Kit.i32_rem_nonneg (x := x &&& 3) (y := z) a.1
  rw [Int32.lt_iff_toInt_lt] at h
  have z0 : (0 : Int32).toInt = 0 := rfl
  rw [Int32.lt_iff_toInt_lt, Int32.lt_iff_toInt_lt, e]
  have b1 := Int.emod_nonneg (x &&& 3).toInt (show z.toInt ≠ 0 by omega)
  have b2 := Int.emod_lt_of_pos (x &&& 3).toInt (show 0 < z.toInt by omega)
  omega
theorem d1_0 : decode method_3_code 0 = .ok (.iload_n 0, 1) := by decide +kernel
theorem d1_1 : decode method_3_code 1 = .ok (.bipush 24, 2) := by decide +kernel
theorem d1_3 : decode method_3_code 3 = .ok (.iushr, 1) := by decide +kernel
theorem d1_4 : decode method_3_code 4 = .ok (.iconst 3, 1) := by decide +kernel
theorem d1_5 : decode method_3_code 5 = .ok (.iand, 1) := by decide +kernel
theorem d1_6 : decode method_3_code 6 = .ok (.ireturn, 1) := by decide +kernel
theorem pn_ClaimResultCompletedPinLaw : plainName "com/example/once_guard/onceguard/ClaimResultCompletedPinLaw" = true := by first | (simp [plainName, overriddenIn]; done) | decide +kernel
theorem ef_1 (m : MethodId) (x0 : Int32) : entryFrame m #[(.int x0)] 1 = mkF m 0 #[.val (.int x0)] [] := by first | (simp [entryFrame, mkF, argsToLocals, Value.category]; done) | rfl
def Q1 (Z : State) (p1 : Int32) (h0 : Heap) (n0 : Nat) (v : Option Value) (h : Heap) (L : List Loc) : Prop := v = some (.int (own_len p1)) ∧ Fr n0 L ∧ h = h0
set_option maxRecDepth 65536 in
set_option maxHeartbeats 40000000 in
theorem rm1 (l : Launch) (Z : State) (a0 : Array Value) (hw : ∀ d ∈ tables_1, d.before a0 Z = true) (ws : List Jvm.Cond) (p1 : Int32) (h0 : Heap) (n0 : Nat) (Z0 : n0 ≤ h0.size) :
    MetFree l (⟨"com/example/once_guard/onceguard/ClaimResultCompletedPinLaw", "len", "(I)I"⟩ : MethodName) (head1 (Jvm.Cond.code (⟨"com/example/once_guard/onceguard/ClaimResultCompletedPinLaw", "len", "(I)I"⟩ : MethodName) method_3_code 1 (some .int) :: ws) ({ frames := 0, cells := 0, slots := 0, locals := 0 } : Room)) (fun a U => a = #[(.int p1)] ∧ Z.Warmed39 U.vm ∧ U.heap = h0) (fun _ _ _ _ _ => True) (fun _ U o U' => ∃ v L, o = .returned v ∧ Q1 Z p1 h0 n0 v U'.heap L ∧ FrameEnd U o U' L ({ frames := 0, cells := 0, slots := 0, locals := 0 } : Room).cells ({ frames := 0, cells := 0, slots := 0, locals := 0 } : Room).slots) := by
  refine MetFree.of_bodySF (plainFor_of_name pn_ClaimResultCompletedPinLaw) hisR ?_
  intro p e s m args below meth c s₁ Bd hml0 hP hK
  obtain ⟨rfl, hZ, hh⟩ := hP
  have hx := Bd.exec
  have hby := Bd.bytes
  have hml : c.maxLocals = 1 := hml0
  have hown : s.vm.findClass "com/example/once_guard/onceguard/ClaimResultCompletedPinLaw" = some m.cls := findClass_of_methodNamed Bd.named
  have hnm := (name_of_methodNamed Bd.named Bd.method).1
  have hlk : meth.locks = false := BodyLoose.notSynchronized Bd
  have hret := Bd.returns
  have X0 : Stand p l e ({ frames := 0, cells := 0, slots := 0, locals := 0 } : Room) s m #[(.int p1)] below meth c s₁ [] 0 0 := Stand.of_body Bd
  have e0 : s₁.heap = h0 := by rw [← hh, Bd.state]; rfl
  have N0 := Fr.nil n0
  refine ogo (U' := s₁.setTop (mkF m 0 #[.val (.int p1)] [])) (Q := Q1 Z p1 h0 n0) (K := ({ frames := 0, cells := 0, slots := 0, locals := 0 } : Room).cells) (N := ({ frames := 0, cells := 0, slots := 0, locals := 0 } : Room).slots) (fun t k => castTop (ef_1 m p1) k) ?_
  show OwnEnds _ _ _ _ _ _ _ (s₁.setTop (mkF m 0 #[.val (.int p1)] []))
  refine ogo (fun t k => XS.iloadN X0.here hx rfl (hb hby d1_0) rfl k) ?_
  show OwnEnds _ _ _ _ _ _ _ (s₁.setTop (mkF m 1 #[.val (.int p1)] [(.int p1)]))
  refine ogo (fun t k => XS.bipush X0.here hx rfl (hb hby d1_1) k) ?_
  show OwnEnds _ _ _ _ _ _ _ (s₁.setTop (mkF m 3 #[.val (.int p1)] [(.int (24 : Int32)), (.int p1)]))
  refine ogo (fun t k => XS.iushr X0.here hx rfl (hb hby d1_3) rfl k) ?_
  show OwnEnds _ _ _ _ _ _ _ (s₁.setTop (mkF m 4 #[.val (.int p1)] [(.int ((p1.toUInt32 >>> ((24 : Int32) &&& 31).toUInt32).toInt32))]))
  refine ogo (fun t k => XS.iconst X0.here hx rfl (hb hby d1_4) k) ?_
  show OwnEnds _ _ _ _ _ _ _ (s₁.setTop (mkF m 5 #[.val (.int p1)] [(.int (3 : Int32)), (.int ((p1.toUInt32 >>> ((24 : Int32) &&& 31).toUInt32).toInt32))]))
  refine ogo (fun t k => XS.iand X0.here hx rfl (hb hby d1_5) rfl k) ?_
  show OwnEnds _ _ _ _ _ _ _ (s₁.setTop (mkF m 6 #[.val (.int p1)] [(.int (((p1.toUInt32 >>> ((24 : Int32) &&& 31).toUInt32).toInt32) &&& (3 : Int32)))]))
  refine endI X0 hx hlk hret (hb hby d1_6) (by decide) (by decide) ?_
  show Q1 Z p1 h0 n0 _ s₁.heap _
  rw [e0]
  exact ⟨rfl, N0, rfl⟩
theorem d2_0 : decode method_4_code 0 = .ok (.iload_n 0, 1) := by decide +kernel
theorem d2_1 : decode method_4_code 1 = .ok (.invokestatic 44, 3) := by decide +kernel
theorem d2_4 : decode method_4_code 4 = .ok (.istore_n 1, 1) := by decide +kernel
theorem d2_5 : decode method_4_code 5 = .ok (.iload_n 1, 1) := by decide +kernel
theorem d2_6 : decode method_4_code 6 = .ok (.newarray .byte, 2) := by decide +kernel
theorem d2_8 : decode method_4_code 8 = .ok (.astore_n 2, 1) := by decide +kernel
theorem d2_9 : decode method_4_code 9 = .ok (.iload_n 1, 1) := by decide +kernel
theorem d2_10 : decode method_4_code 10 = .ok (.ifCond .le 8, 3) := by decide +kernel
theorem d2_13 : decode method_4_code 13 = .ok (.aload_n 2, 1) := by decide +kernel
theorem d2_14 : decode method_4_code 14 = .ok (.iconst 0, 1) := by decide +kernel
theorem d2_15 : decode method_4_code 15 = .ok (.iload_n 0, 1) := by decide +kernel
theorem d2_16 : decode method_4_code 16 = .ok (.i2b, 1) := by decide +kernel
theorem d2_17 : decode method_4_code 17 = .ok (.bastore, 1) := by decide +kernel
theorem d2_18 : decode method_4_code 18 = .ok (.iload_n 1, 1) := by decide +kernel
theorem d2_19 : decode method_4_code 19 = .ok (.iconst 1, 1) := by decide +kernel
theorem d2_20 : decode method_4_code 20 = .ok (.if_icmp .le 11, 3) := by decide +kernel
theorem d2_23 : decode method_4_code 23 = .ok (.aload_n 2, 1) := by decide +kernel
theorem d2_24 : decode method_4_code 24 = .ok (.iconst 1, 1) := by decide +kernel
theorem d2_25 : decode method_4_code 25 = .ok (.iload_n 0, 1) := by decide +kernel
theorem d2_26 : decode method_4_code 26 = .ok (.bipush 8, 2) := by decide +kernel
theorem d2_28 : decode method_4_code 28 = .ok (.iushr, 1) := by decide +kernel
theorem d2_29 : decode method_4_code 29 = .ok (.i2b, 1) := by decide +kernel
theorem d2_30 : decode method_4_code 30 = .ok (.bastore, 1) := by decide +kernel
theorem d2_31 : decode method_4_code 31 = .ok (.iload_n 1, 1) := by decide +kernel
theorem d2_32 : decode method_4_code 32 = .ok (.iconst 2, 1) := by decide +kernel
theorem d2_33 : decode method_4_code 33 = .ok (.if_icmp .le 11, 3) := by decide +kernel
theorem d2_36 : decode method_4_code 36 = .ok (.aload_n 2, 1) := by decide +kernel
theorem d2_37 : decode method_4_code 37 = .ok (.iconst 2, 1) := by decide +kernel
theorem d2_38 : decode method_4_code 38 = .ok (.iload_n 0, 1) := by decide +kernel
theorem d2_39 : decode method_4_code 39 = .ok (.bipush 16, 2) := by decide +kernel
theorem d2_41 : decode method_4_code 41 = .ok (.iushr, 1) := by decide +kernel
theorem d2_42 : decode method_4_code 42 = .ok (.i2b, 1) := by decide +kernel
theorem d2_43 : decode method_4_code 43 = .ok (.bastore, 1) := by decide +kernel
theorem d2_44 : decode method_4_code 44 = .ok (.aload_n 2, 1) := by decide +kernel
theorem d2_45 : decode method_4_code 45 = .ok (.areturn, 1) := by decide +kernel
theorem pd__I_I : parseMethodDescriptor "(I)I" = some ⟨[.int], some .int⟩ := by decide +kernel
theorem ef_2 (m : MethodId) (x0 : Int32) : entryFrame m #[(.int x0)] 3 = mkF m 0 #[.val (.int x0), .unset, .unset] [] := by first | (simp [entryFrame, mkF, argsToLocals, Value.category]; done) | rfl
def Q2 (Z : State) (p1 : Int32) (h0 : Heap) (n0 : Nat) (v : Option Value) (h : Heap) (L : List Loc) : Prop := ∃ r : Addr, v = some (.ref r) ∧ h0.size ≤ r ∧ Fr n0 L ∧ Keep h0 h [] ∧ Av Z h r .byte (own_len p1) (own_bs p1) (.int (0 : Int32)) ∧ Exa Z h r "[B"
set_option maxRecDepth 65536 in
set_option maxHeartbeats 40000000 in
theorem rm2 (l : Launch) (Z : State) (a0 : Array Value) (hw : ∀ d ∈ tables_1, d.before a0 Z = true) (ws : List Jvm.Cond) (p1 : Int32) (h0 : Heap) (n0 : Nat) (Z0 : n0 ≤ h0.size) (OLD : Old Z n0 h0) :
    MetFree l (⟨"com/example/once_guard/onceguard/ClaimResultCompletedPinLaw", "make", "(I)[B"⟩ : MethodName) (head1 (Jvm.Cond.code (⟨"com/example/once_guard/onceguard/ClaimResultCompletedPinLaw", "make", "(I)[B"⟩ : MethodName) method_4_code 3 (some (.array .byte)) :: ws) ({ frames := 1, cells := 1, slots := 3, locals := 12 } : Room)) (fun a U => a = #[(.int p1)] ∧ Z.Warmed39 U.vm ∧ U.heap = h0) (fun _ _ _ _ _ => True) (fun _ U o U' => ∃ v L, o = .returned v ∧ Q2 Z p1 h0 n0 v U'.heap L ∧ FrameEnd U o U' L ({ frames := 1, cells := 1, slots := 3, locals := 12 } : Room).cells ({ frames := 1, cells := 1, slots := 3, locals := 12 } : Room).slots) := by
  refine MetFree.of_bodySF (plainFor_of_name pn_ClaimResultCompletedPinLaw) hisR ?_
  intro p e s m args below meth c s₁ Bd hml0 hP hK
  obtain ⟨rfl, hZ, hh⟩ := hP
  have hx := Bd.exec
  have hby := Bd.bytes
  have hml : c.maxLocals = 3 := hml0
  have hown : s.vm.findClass "com/example/once_guard/onceguard/ClaimResultCompletedPinLaw" = some m.cls := findClass_of_methodNamed Bd.named
  have hnm := (name_of_methodNamed Bd.named Bd.method).1
  have hlk : meth.locks = false := BodyLoose.notSynchronized Bd
  have hret := Bd.returns
  have X0 : Stand p l e ({ frames := 1, cells := 1, slots := 3, locals := 12 } : Room) s m #[(.int p1)] below meth c s₁ [] 0 0 := Stand.of_body Bd
  have e0 : s₁.heap = h0 := by rw [← hh, Bd.state]; rfl
  have N0 := Fr.nil n0
  refine ogo (U' := s₁.setTop (mkF m 0 #[.val (.int p1), .unset, .unset] [])) (Q := Q2 Z p1 h0 n0) (K := ({ frames := 1, cells := 1, slots := 3, locals := 12 } : Room).cells) (N := ({ frames := 1, cells := 1, slots := 3, locals := 12 } : Room).slots) (fun t k => castTop (ef_2 m p1) k) ?_
  show OwnEnds _ _ _ _ _ _ _ (s₁.setTop (mkF m 0 #[.val (.int p1), .unset, .unset] []))
  refine ogo (fun t k => XS.iloadN X0.here hx rfl (hb hby d2_0) rfl k) ?_
  show OwnEnds _ _ _ _ _ _ _ (s₁.setTop (mkF m 1 #[.val (.int p1), .unset, .unset] [(.int p1)]))
  obtain ⟨v1, _, ⟨T1, L1, k1, n1⟩, -, X1, ⟨Lc1, hQ1, l1, y1, z1⟩, st1⟩ := Jvm.LawKit.callS X0 hx (y := (⟨"com/example/once_guard/onceguard/ClaimResultCompletedPinLaw", "len", "(I)I"⟩ : MethodName)) hown (mvT hZ (hw _ (List.mem_of_getElem? (i := 4) rfl))) (mvT hZ (hw _ (List.mem_of_getElem? (i := 5) rfl))) (mvT hZ (hw _ (List.mem_of_getElem? (i := 2) rfl))) (mvT hZ (hw _ (List.mem_of_getElem? (i := 6) rfl))) (by decide) (backOf (W := 0) (rm1 l Z a0 hw [] p1 h0 n0 Z0 ) hZ (hw _ (List.mem_of_getElem? (i := 6) rfl)) (hw _ (List.mem_of_getElem? (i := 2) rfl)) (by decide) (by decide)) (g := (mkF m 1 #[.val (.int p1), .unset, .unset] [(.int p1)])) rfl (by rw [hml]; rfl) (argsL := [(.int p1)]) (rest := []) (lenOf pd__I_I rfl) rfl (by show 2 * 0 + _ ≤ _; exact Nat.le_of_eq rfl) (hb hby d2_1) (fun _ _ => ⟨rfl, e0, (by decide : 0 + 0 ≤ _), (by decide : 0 + 0 ≤ _)⟩)
  dsimp only [Pt.U, Pt.locs, Pt.cells, Pt.slots] at X1 l1 y1 z1 st1 hQ1
  subst l1 y1 z1
  obtain ⟨rfl, N1q, e1⟩ := hQ1
  have N1 := Fr.app N0 N1q
  refine ogo (fun t k => st1 t k) ?_
  generalize hk : (own_len p1) = k
  rcases own_case4 (hk ▸ own_lenb p1) with rfl | rfl | rfl | rfl
  · show OwnEnds _ _ _ _ _ _ _ (T1.setTop (mkF m 4 #[.val (.int p1), .unset, .unset] [(.int (0 : Int32))]))
    refine ogo (fun t k => XS.istoreN X1.here hx rfl (hb hby d2_4) rfl (l' := #[.val (.int p1), .val (.int (0 : Int32)), .unset]) rfl k) ?_
    show OwnEnds _ _ _ _ _ _ _ (T1.setTop (mkF m 5 #[.val (.int p1), .val (.int (0 : Int32)), .unset] []))
    refine ogo (fun t k => XS.iloadN X1.here hx rfl (hb hby d2_5) rfl k) ?_
    show OwnEnds _ _ _ _ _ _ _ (T1.setTop (mkF m 6 #[.val (.int p1), .val (.int (0 : Int32)), .unset] [(.int (0 : Int32))]))
    obtain ⟨T2, h2, k2, X2, e2, E2, A2, B2, st2⟩ := newPE X1 hx hZ (hw _ (List.mem_of_getElem? (i := 7) rfl)) e1 (g := (mkF m 6 #[.val (.int p1), .val (.int (0 : Int32)), .unset] [(.int (0 : Int32))])) rfl (hb hby d2_6) rfl (by decide) (cap := 0) (by decide) (by decide) (by decide) (by decide) (ad := "[B") (by decide)
    obtain ⟨b2, g2⟩ : ∃ z, z = h0.size := ⟨_, rfl⟩
    rw [← g2] at A2 B2 st2
    have q_b2 : n0 ≤ b2 := Nat.le_trans Z0 (Nat.le_of_eq g2.symm)
    have sz_b2 : h0.size ≤ b2 := Nat.le_trans (Keep.refl h0 []).1 (Nat.le_of_eq g2.symm)
    have OLD3 := OLD.ext E2
    have K3 := (Keep.refl h0 []).ext E2
    have Z3 := Nat.le_trans Z0 E2.1
    have V2 : Arv Z h2 b2 k2 .byte (0 : Int32) [] (.int (0 : Int32)) := (Arv.new A2 (by decide)).pad (pad_rep [] (.int (0 : Int32)) 0)
    refine ogo st2 ?_
    show OwnEnds _ _ _ _ _ _ _ (T2.setTop (mkF m 8 #[.val (.int p1), .val (.int (0 : Int32)), .unset] [(.ref b2)]))
    refine ogo (fun t k => XS.astoreN X2.here hx rfl (hb hby d2_8) rfl rfl (l' := #[.val (.int p1), .val (.int (0 : Int32)), .val (.ref b2)]) rfl k) ?_
    show OwnEnds _ _ _ _ _ _ _ (T2.setTop (mkF m 9 #[.val (.int p1), .val (.int (0 : Int32)), .val (.ref b2)] []))
    refine ogo (fun t k => XS.iloadN X2.here hx rfl (hb hby d2_9) rfl k) ?_
    show OwnEnds _ _ _ _ _ _ _ (T2.setTop (mkF m 10 #[.val (.int p1), .val (.int (0 : Int32)), .val (.ref b2)] [(.int (0 : Int32))]))
    refine ogo (fun t k => XS.ifYes X2.here hx rfl (pc0 := 10) (pc' := 18) rfl (hb hby d2_10) rfl ((if0 _ _).trans (flt (by decide : ¬ ((0 : Int32) < (0 : Int32)))).2.2.2) (by decide) (by decide) k) ?_
    show OwnEnds _ _ _ _ _ _ _ (T2.setTop (mkF m 18 #[.val (.int p1), .val (.int (0 : Int32)), .val (.ref b2)] []))
    refine ogo (fun t k => XS.iloadN X2.here hx rfl (hb hby d2_18) rfl k) ?_
    show OwnEnds _ _ _ _ _ _ _ (T2.setTop (mkF m 19 #[.val (.int p1), .val (.int (0 : Int32)), .val (.ref b2)] [(.int (0 : Int32))]))
    refine ogo (fun t k => XS.iconst X2.here hx rfl (hb hby d2_19) k) ?_
    show OwnEnds _ _ _ _ _ _ _ (T2.setTop (mkF m 20 #[.val (.int p1), .val (.int (0 : Int32)), .val (.ref b2)] [(.int (1 : Int32)), (.int (0 : Int32))]))
    refine ogo (fun t k => XS.icmpYes X2.here hx rfl (pc0 := 20) (pc' := 31) rfl (hb hby d2_20) rfl (flt (by decide : ¬ ((1 : Int32) < (0 : Int32)))).2.2.2 (by decide) (by decide) k) ?_
    show OwnEnds _ _ _ _ _ _ _ (T2.setTop (mkF m 31 #[.val (.int p1), .val (.int (0 : Int32)), .val (.ref b2)] []))
    refine ogo (fun t k => XS.iloadN X2.here hx rfl (hb hby d2_31) rfl k) ?_
    show OwnEnds _ _ _ _ _ _ _ (T2.setTop (mkF m 32 #[.val (.int p1), .val (.int (0 : Int32)), .val (.ref b2)] [(.int (0 : Int32))]))
    refine ogo (fun t k => XS.iconst X2.here hx rfl (hb hby d2_32) k) ?_
    show OwnEnds _ _ _ _ _ _ _ (T2.setTop (mkF m 33 #[.val (.int p1), .val (.int (0 : Int32)), .val (.ref b2)] [(.int (2 : Int32)), (.int (0 : Int32))]))
    refine ogo (fun t k => XS.icmpYes X2.here hx rfl (pc0 := 33) (pc' := 44) rfl (hb hby d2_33) rfl (flt (by decide : ¬ ((2 : Int32) < (0 : Int32)))).2.2.2 (by decide) (by decide) k) ?_
    show OwnEnds _ _ _ _ _ _ _ (T2.setTop (mkF m 44 #[.val (.int p1), .val (.int (0 : Int32)), .val (.ref b2)] []))
    refine ogo (fun t k => XS.aloadN X2.here hx rfl (hb hby d2_44) rfl rfl k) ?_
    show OwnEnds _ _ _ _ _ _ _ (T2.setTop (mkF m 45 #[.val (.int p1), .val (.int (0 : Int32)), .val (.ref b2)] [(.ref b2)]))
    refine endA X2 hx hlk hret rfl rfl (hb hby d2_45) (by decide) (by decide) ?_
    show Q2 Z p1 h0 n0 _ T2.heap _
    rw [e2]
    have hm : Av Z h2 b2 .byte (own_len p1) (own_bs p1) (.int (0 : Int32)) := by
      rw [hk]
      refine Av.more ⟨_, V2⟩ ?_
      intro i hi
      have hz : (0 : Int32).toNatClampNeg = 0 := by decide
      rw [hz] at hi
      exact absurd hi (Nat.not_lt_zero _)
    exact ⟨b2, rfl, sz_b2, N1, K3, hm, B2⟩
  · show OwnEnds _ _ _ _ _ _ _ (T1.setTop (mkF m 4 #[.val (.int p1), .unset, .unset] [(.int (1 : Int32))]))
    refine ogo (fun t k => XS.istoreN X1.here hx rfl (hb hby d2_4) rfl (l' := #[.val (.int p1), .val (.int (1 : Int32)), .unset]) rfl k) ?_
    show OwnEnds _ _ _ _ _ _ _ (T1.setTop (mkF m 5 #[.val (.int p1), .val (.int (1 : Int32)), .unset] []))
    refine ogo (fun t k => XS.iloadN X1.here hx rfl (hb hby d2_5) rfl k) ?_
    show OwnEnds _ _ _ _ _ _ _ (T1.setTop (mkF m 6 #[.val (.int p1), .val (.int (1 : Int32)), .unset] [(.int (1 : Int32))]))
    obtain ⟨T4, h4, k4, X4, e4, E4, A4, B4, st4⟩ := newPE X1 hx hZ (hw _ (List.mem_of_getElem? (i := 7) rfl)) e1 (g := (mkF m 6 #[.val (.int p1), .val (.int (1 : Int32)), .unset] [(.int (1 : Int32))])) rfl (hb hby d2_6) rfl (by decide) (cap := 1) (by decide) (by decide) (by decide) (by decide) (ad := "[B") (by decide)
    obtain ⟨b4, g4⟩ : ∃ z, z = h0.size := ⟨_, rfl⟩
    rw [← g4] at A4 B4 st4
    have q_b4 : n0 ≤ b4 := Nat.le_trans Z0 (Nat.le_of_eq g4.symm)
    have sz_b4 : h0.size ≤ b4 := Nat.le_trans (Keep.refl h0 []).1 (Nat.le_of_eq g4.symm)
    have OLD5 := OLD.ext E4
    have K5 := (Keep.refl h0 []).ext E4
    have Z5 := Nat.le_trans Z0 E4.1
    have V4 : Arv Z h4 b4 k4 .byte (1 : Int32) [(.int (0 : Int32))] (.int (0 : Int32)) := (Arv.new A4 (by decide)).pad (pad_rep [] (.int (0 : Int32)) 1)
    refine ogo st4 ?_
    show OwnEnds _ _ _ _ _ _ _ (T4.setTop (mkF m 8 #[.val (.int p1), .val (.int (1 : Int32)), .unset] [(.ref b4)]))
    refine ogo (fun t k => XS.astoreN X4.here hx rfl (hb hby d2_8) rfl rfl (l' := #[.val (.int p1), .val (.int (1 : Int32)), .val (.ref b4)]) rfl k) ?_
    show OwnEnds _ _ _ _ _ _ _ (T4.setTop (mkF m 9 #[.val (.int p1), .val (.int (1 : Int32)), .val (.ref b4)] []))
    refine ogo (fun t k => XS.iloadN X4.here hx rfl (hb hby d2_9) rfl k) ?_
    show OwnEnds _ _ _ _ _ _ _ (T4.setTop (mkF m 10 #[.val (.int p1), .val (.int (1 : Int32)), .val (.ref b4)] [(.int (1 : Int32))]))
    refine ogo (fun t k => XS.ifNo X4.here hx rfl (hb hby d2_10) rfl ((if0 _ _).trans (tlt (by decide : (0 : Int32) < (1 : Int32))).2.2.2) k) ?_
    show OwnEnds _ _ _ _ _ _ _ (T4.setTop (mkF m 13 #[.val (.int p1), .val (.int (1 : Int32)), .val (.ref b4)] []))
    refine ogo (fun t k => XS.aloadN X4.here hx rfl (hb hby d2_13) rfl rfl k) ?_
    show OwnEnds _ _ _ _ _ _ _ (T4.setTop (mkF m 14 #[.val (.int p1), .val (.int (1 : Int32)), .val (.ref b4)] [(.ref b4)]))
    refine ogo (fun t k => XS.iconst X4.here hx rfl (hb hby d2_14) k) ?_
    show OwnEnds _ _ _ _ _ _ _ (T4.setTop (mkF m 15 #[.val (.int p1), .val (.int (1 : Int32)), .val (.ref b4)] [(.int (0 : Int32)), (.ref b4)]))
    refine ogo (fun t k => XS.iloadN X4.here hx rfl (hb hby d2_15) rfl k) ?_
    show OwnEnds _ _ _ _ _ _ _ (T4.setTop (mkF m 16 #[.val (.int p1), .val (.int (1 : Int32)), .val (.ref b4)] [(.int p1), (.int (0 : Int32)), (.ref b4)]))
    refine ogo (fun t k => XS.i2b X4.here hx rfl (hb hby d2_16) rfl k) ?_
    show OwnEnds _ _ _ _ _ _ _ (T4.setTop (mkF m 17 #[.val (.int p1), .val (.int (1 : Int32)), .val (.ref b4)] [(.int (p1.toInt8.toInt32)), (.int (0 : Int32)), (.ref b4)]))
    obtain ⟨cl6, Ar6, Aq6, As6, An6, Ah6, Ag6⟩ := id V4
    obtain ⟨T6, h6, X6, e6, W6, st6⟩ := stB X4 hx hZ e4 Ar6 (j := (0 : Int32)) (inb_of As6 ⟨by decide, by decide⟩) (g := (mkF m 17 #[.val (.int p1), .val (.int (1 : Int32)), .val (.ref b4)] [(.int (p1.toInt8.toInt32)), (.int (0 : Int32)), (.ref b4)])) rfl rfl (hb hby d2_17)
    rw [own_narb] at W6
    have V6 : Arv Z h6 b4 k4 .byte (1 : Int32) [(.int (p1.toInt8.toInt32))] (.int (0 : Int32)) := Arv.set Ar6 Aq6 As6 An6 Ah6 Ag6 (fits_nar_byte _) W6 0 rfl (Nat.le_of_ble_eq_true rfl)
    have f7 := B4.wr W6
    have N8 := Fr.snoc X6 N1 q_b4
    have OLD8 := OLD5.wr W6 q_b4
    have K8 := K5.wr W6 (Or.inr sz_b4)
    have Z8 := Nat.le_trans Z5 (Nat.le_of_eq W6.size.symm)
    refine ogo st6 ?_
    show OwnEnds _ _ _ _ _ _ _ (T6.setTop (mkF m 18 #[.val (.int p1), .val (.int (1 : Int32)), .val (.ref b4)] []))
    refine ogo (fun t k => XS.iloadN X6.here hx rfl (hb hby d2_18) rfl k) ?_
    show OwnEnds _ _ _ _ _ _ _ (T6.setTop (mkF m 19 #[.val (.int p1), .val (.int (1 : Int32)), .val (.ref b4)] [(.int (1 : Int32))]))
    refine ogo (fun t k => XS.iconst X6.here hx rfl (hb hby d2_19) k) ?_
    show OwnEnds _ _ _ _ _ _ _ (T6.setTop (mkF m 20 #[.val (.int p1), .val (.int (1 : Int32)), .val (.ref b4)] [(.int (1 : Int32)), (.int (1 : Int32))]))
    refine ogo (fun t k => XS.icmpYes X6.here hx rfl (pc0 := 20) (pc' := 31) rfl (hb hby d2_20) rfl (flt (by decide : ¬ ((1 : Int32) < (1 : Int32)))).2.2.2 (by decide) (by decide) k) ?_
    show OwnEnds _ _ _ _ _ _ _ (T6.setTop (mkF m 31 #[.val (.int p1), .val (.int (1 : Int32)), .val (.ref b4)] []))
    refine ogo (fun t k => XS.iloadN X6.here hx rfl (hb hby d2_31) rfl k) ?_
    show OwnEnds _ _ _ _ _ _ _ (T6.setTop (mkF m 32 #[.val (.int p1), .val (.int (1 : Int32)), .val (.ref b4)] [(.int (1 : Int32))]))
    refine ogo (fun t k => XS.iconst X6.here hx rfl (hb hby d2_32) k) ?_
    show OwnEnds _ _ _ _ _ _ _ (T6.setTop (mkF m 33 #[.val (.int p1), .val (.int (1 : Int32)), .val (.ref b4)] [(.int (2 : Int32)), (.int (1 : Int32))]))
    refine ogo (fun t k => XS.icmpYes X6.here hx rfl (pc0 := 33) (pc' := 44) rfl (hb hby d2_33) rfl (flt (by decide : ¬ ((2 : Int32) < (1 : Int32)))).2.2.2 (by decide) (by decide) k) ?_
    show OwnEnds _ _ _ _ _ _ _ (T6.setTop (mkF m 44 #[.val (.int p1), .val (.int (1 : Int32)), .val (.ref b4)] []))
    refine ogo (fun t k => XS.aloadN X6.here hx rfl (hb hby d2_44) rfl rfl k) ?_
    show OwnEnds _ _ _ _ _ _ _ (T6.setTop (mkF m 45 #[.val (.int p1), .val (.int (1 : Int32)), .val (.ref b4)] [(.ref b4)]))
    refine endA X6 hx hlk hret rfl rfl (hb hby d2_45) (by decide) (by decide) ?_
    show Q2 Z p1 h0 n0 _ T6.heap _
    rw [e6]
    have hm : Av Z h6 b4 .byte (own_len p1) (own_bs p1) (.int (0 : Int32)) := by
      rw [hk]
      refine Av.more ⟨_, V6⟩ ?_
      intro i hi
      have hz : (1 : Int32).toNatClampNeg = 1 := by decide
      rw [hz] at hi
      rcases i with _ | i
      · rfl
      · omega
    exact ⟨b4, rfl, sz_b4, N8, K8, hm, f7⟩
  · show OwnEnds _ _ _ _ _ _ _ (T1.setTop (mkF m 4 #[.val (.int p1), .unset, .unset] [(.int (2 : Int32))]))
    refine ogo (fun t k => XS.istoreN X1.here hx rfl (hb hby d2_4) rfl (l' := #[.val (.int p1), .val (.int (2 : Int32)), .unset]) rfl k) ?_
    show OwnEnds _ _ _ _ _ _ _ (T1.setTop (mkF m 5 #[.val (.int p1), .val (.int (2 : Int32)), .unset] []))
    refine ogo (fun t k => XS.iloadN X1.here hx rfl (hb hby d2_5) rfl k) ?_
    show OwnEnds _ _ _ _ _ _ _ (T1.setTop (mkF m 6 #[.val (.int p1), .val (.int (2 : Int32)), .unset] [(.int (2 : Int32))]))
    obtain ⟨T9, h9, k9, X9, e9, E9, A9, B9, st9⟩ := newPE X1 hx hZ (hw _ (List.mem_of_getElem? (i := 7) rfl)) e1 (g := (mkF m 6 #[.val (.int p1), .val (.int (2 : Int32)), .unset] [(.int (2 : Int32))])) rfl (hb hby d2_6) rfl (by decide) (cap := 2) (by decide) (by decide) (by decide) (by decide) (ad := "[B") (by decide)
    obtain ⟨b9, g9⟩ : ∃ z, z = h0.size := ⟨_, rfl⟩
    rw [← g9] at A9 B9 st9
    have q_b9 : n0 ≤ b9 := Nat.le_trans Z0 (Nat.le_of_eq g9.symm)
    have sz_b9 : h0.size ≤ b9 := Nat.le_trans (Keep.refl h0 []).1 (Nat.le_of_eq g9.symm)
    have OLD10 := OLD.ext E9
    have K10 := (Keep.refl h0 []).ext E9
    have Z10 := Nat.le_trans Z0 E9.1
    have V9 : Arv Z h9 b9 k9 .byte (2 : Int32) [(.int (0 : Int32)), (.int (0 : Int32))] (.int (0 : Int32)) := (Arv.new A9 (by decide)).pad (pad_rep [] (.int (0 : Int32)) 2)
    refine ogo st9 ?_
    show OwnEnds _ _ _ _ _ _ _ (T9.setTop (mkF m 8 #[.val (.int p1), .val (.int (2 : Int32)), .unset] [(.ref b9)]))
    refine ogo (fun t k => XS.astoreN X9.here hx rfl (hb hby d2_8) rfl rfl (l' := #[.val (.int p1), .val (.int (2 : Int32)), .val (.ref b9)]) rfl k) ?_
    show OwnEnds _ _ _ _ _ _ _ (T9.setTop (mkF m 9 #[.val (.int p1), .val (.int (2 : Int32)), .val (.ref b9)] []))
    refine ogo (fun t k => XS.iloadN X9.here hx rfl (hb hby d2_9) rfl k) ?_
    show OwnEnds _ _ _ _ _ _ _ (T9.setTop (mkF m 10 #[.val (.int p1), .val (.int (2 : Int32)), .val (.ref b9)] [(.int (2 : Int32))]))
    refine ogo (fun t k => XS.ifNo X9.here hx rfl (hb hby d2_10) rfl ((if0 _ _).trans (tlt (by decide : (0 : Int32) < (2 : Int32))).2.2.2) k) ?_
    show OwnEnds _ _ _ _ _ _ _ (T9.setTop (mkF m 13 #[.val (.int p1), .val (.int (2 : Int32)), .val (.ref b9)] []))
    refine ogo (fun t k => XS.aloadN X9.here hx rfl (hb hby d2_13) rfl rfl k) ?_
    show OwnEnds _ _ _ _ _ _ _ (T9.setTop (mkF m 14 #[.val (.int p1), .val (.int (2 : Int32)), .val (.ref b9)] [(.ref b9)]))
    refine ogo (fun t k => XS.iconst X9.here hx rfl (hb hby d2_14) k) ?_
    show OwnEnds _ _ _ _ _ _ _ (T9.setTop (mkF m 15 #[.val (.int p1), .val (.int (2 : Int32)), .val (.ref b9)] [(.int (0 : Int32)), (.ref b9)]))
    refine ogo (fun t k => XS.iloadN X9.here hx rfl (hb hby d2_15) rfl k) ?_
    show OwnEnds _ _ _ _ _ _ _ (T9.setTop (mkF m 16 #[.val (.int p1), .val (.int (2 : Int32)), .val (.ref b9)] [(.int p1), (.int (0 : Int32)), (.ref b9)]))
    refine ogo (fun t k => XS.i2b X9.here hx rfl (hb hby d2_16) rfl k) ?_
    show OwnEnds _ _ _ _ _ _ _ (T9.setTop (mkF m 17 #[.val (.int p1), .val (.int (2 : Int32)), .val (.ref b9)] [(.int (p1.toInt8.toInt32)), (.int (0 : Int32)), (.ref b9)]))
    obtain ⟨cl11, Ar11, Aq11, As11, An11, Ah11, Ag11⟩ := id V9
    obtain ⟨T11, h11, X11, e11, W11, st11⟩ := stB X9 hx hZ e9 Ar11 (j := (0 : Int32)) (inb_of As11 ⟨by decide, by decide⟩) (g := (mkF m 17 #[.val (.int p1), .val (.int (2 : Int32)), .val (.ref b9)] [(.int (p1.toInt8.toInt32)), (.int (0 : Int32)), (.ref b9)])) rfl rfl (hb hby d2_17)
    rw [own_narb] at W11
    have V11 : Arv Z h11 b9 k9 .byte (2 : Int32) [(.int (p1.toInt8.toInt32)), (.int (0 : Int32))] (.int (0 : Int32)) := Arv.set Ar11 Aq11 As11 An11 Ah11 Ag11 (fits_nar_byte _) W11 0 rfl (Nat.le_of_ble_eq_true rfl)
    have f12 := B9.wr W11
    have N13 := Fr.snoc X11 N1 q_b9
    have OLD13 := OLD10.wr W11 q_b9
    have K13 := K10.wr W11 (Or.inr sz_b9)
    have Z13 := Nat.le_trans Z10 (Nat.le_of_eq W11.size.symm)
    refine ogo st11 ?_
    show OwnEnds _ _ _ _ _ _ _ (T11.setTop (mkF m 18 #[.val (.int p1), .val (.int (2 : Int32)), .val (.ref b9)] []))
    refine ogo (fun t k => XS.iloadN X11.here hx rfl (hb hby d2_18) rfl k) ?_
    show OwnEnds _ _ _ _ _ _ _ (T11.setTop (mkF m 19 #[.val (.int p1), .val (.int (2 : Int32)), .val (.ref b9)] [(.int (2 : Int32))]))
    refine ogo (fun t k => XS.iconst X11.here hx rfl (hb hby d2_19) k) ?_
    show OwnEnds _ _ _ _ _ _ _ (T11.setTop (mkF m 20 #[.val (.int p1), .val (.int (2 : Int32)), .val (.ref b9)] [(.int (1 : Int32)), (.int (2 : Int32))]))
    refine ogo (fun t k => XS.icmpNo X11.here hx rfl (hb hby d2_20) rfl (tlt (by decide : (1 : Int32) < (2 : Int32))).2.2.2 k) ?_
    show OwnEnds _ _ _ _ _ _ _ (T11.setTop (mkF m 23 #[.val (.int p1), .val (.int (2 : Int32)), .val (.ref b9)] []))
    refine ogo (fun t k => XS.aloadN X11.here hx rfl (hb hby d2_23) rfl rfl k) ?_
    show OwnEnds _ _ _ _ _ _ _ (T11.setTop (mkF m 24 #[.val (.int p1), .val (.int (2 : Int32)), .val (.ref b9)] [(.ref b9)]))
    refine ogo (fun t k => XS.iconst X11.here hx rfl (hb hby d2_24) k) ?_
    show OwnEnds _ _ _ _ _ _ _ (T11.setTop (mkF m 25 #[.val (.int p1), .val (.int (2 : Int32)), .val (.ref b9)] [(.int (1 : Int32)), (.ref b9)]))
    refine ogo (fun t k => XS.iloadN X11.here hx rfl (hb hby d2_25) rfl k) ?_
    show OwnEnds _ _ _ _ _ _ _ (T11.setTop (mkF m 26 #[.val (.int p1), .val (.int (2 : Int32)), .val (.ref b9)] [(.int p1), (.int (1 : Int32)), (.ref b9)]))
    refine ogo (fun t k => XS.bipush X11.here hx rfl (hb hby d2_26) k) ?_
    show OwnEnds _ _ _ _ _ _ _ (T11.setTop (mkF m 28 #[.val (.int p1), .val (.int (2 : Int32)), .val (.ref b9)] [(.int (8 : Int32)), (.int p1), (.int (1 : Int32)), (.ref b9)]))
    refine ogo (fun t k => XS.iushr X11.here hx rfl (hb hby d2_28) rfl k) ?_
    show OwnEnds _ _ _ _ _ _ _ (T11.setTop (mkF m 29 #[.val (.int p1), .val (.int (2 : Int32)), .val (.ref b9)] [(.int ((p1.toUInt32 >>> ((8 : Int32) &&& 31).toUInt32).toInt32)), (.int (1 : Int32)), (.ref b9)]))
    refine ogo (fun t k => XS.i2b X11.here hx rfl (hb hby d2_29) rfl k) ?_
    show OwnEnds _ _ _ _ _ _ _ (T11.setTop (mkF m 30 #[.val (.int p1), .val (.int (2 : Int32)), .val (.ref b9)] [(.int (((p1.toUInt32 >>> ((8 : Int32) &&& 31).toUInt32).toInt32).toInt8.toInt32)), (.int (1 : Int32)), (.ref b9)]))
    obtain ⟨cl14, Ar14, Aq14, As14, An14, Ah14, Ag14⟩ := id V11
    obtain ⟨T14, h14, X14, e14, W14, st14⟩ := stB X11 hx hZ e11 Ar14 (j := (1 : Int32)) (inb_of As14 ⟨by decide, by decide⟩) (g := (mkF m 30 #[.val (.int p1), .val (.int (2 : Int32)), .val (.ref b9)] [(.int (((p1.toUInt32 >>> ((8 : Int32) &&& 31).toUInt32).toInt32).toInt8.toInt32)), (.int (1 : Int32)), (.ref b9)])) rfl rfl (hb hby d2_30)
    rw [own_narb] at W14
    have V14 : Arv Z h14 b9 k9 .byte (2 : Int32) [(.int (p1.toInt8.toInt32)), (.int (((p1.toUInt32 >>> ((8 : Int32) &&& 31).toUInt32).toInt32).toInt8.toInt32))] (.int (0 : Int32)) := Arv.set Ar14 Aq14 As14 An14 Ah14 Ag14 (fits_nar_byte _) W14 1 rfl (Nat.le_of_ble_eq_true rfl)
    have f15 := f12.wr W14
    have N16 := Fr.snoc X14 N13 q_b9
    have OLD16 := OLD13.wr W14 q_b9
    have K16 := K13.wr W14 (Or.inr sz_b9)
    have Z16 := Nat.le_trans Z13 (Nat.le_of_eq W14.size.symm)
    refine ogo st14 ?_
    show OwnEnds _ _ _ _ _ _ _ (T14.setTop (mkF m 31 #[.val (.int p1), .val (.int (2 : Int32)), .val (.ref b9)] []))
    refine ogo (fun t k => XS.iloadN X14.here hx rfl (hb hby d2_31) rfl k) ?_
    show OwnEnds _ _ _ _ _ _ _ (T14.setTop (mkF m 32 #[.val (.int p1), .val (.int (2 : Int32)), .val (.ref b9)] [(.int (2 : Int32))]))
    refine ogo (fun t k => XS.iconst X14.here hx rfl (hb hby d2_32) k) ?_
    show OwnEnds _ _ _ _ _ _ _ (T14.setTop (mkF m 33 #[.val (.int p1), .val (.int (2 : Int32)), .val (.ref b9)] [(.int (2 : Int32)), (.int (2 : Int32))]))
    refine ogo (fun t k => XS.icmpYes X14.here hx rfl (pc0 := 33) (pc' := 44) rfl (hb hby d2_33) rfl (flt (by decide : ¬ ((2 : Int32) < (2 : Int32)))).2.2.2 (by decide) (by decide) k) ?_
    show OwnEnds _ _ _ _ _ _ _ (T14.setTop (mkF m 44 #[.val (.int p1), .val (.int (2 : Int32)), .val (.ref b9)] []))
    refine ogo (fun t k => XS.aloadN X14.here hx rfl (hb hby d2_44) rfl rfl k) ?_
    show OwnEnds _ _ _ _ _ _ _ (T14.setTop (mkF m 45 #[.val (.int p1), .val (.int (2 : Int32)), .val (.ref b9)] [(.ref b9)]))
    refine endA X14 hx hlk hret rfl rfl (hb hby d2_45) (by decide) (by decide) ?_
    show Q2 Z p1 h0 n0 _ T14.heap _
    rw [e14]
    have hm : Av Z h14 b9 .byte (own_len p1) (own_bs p1) (.int (0 : Int32)) := by
      rw [hk]
      refine Av.more ⟨_, V14⟩ ?_
      intro i hi
      have hz : (2 : Int32).toNatClampNeg = 2 := by decide
      rw [hz] at hi
      rcases i with _ | _ | i
      · rfl
      · rfl
      · omega
    exact ⟨b9, rfl, sz_b9, N16, K16, hm, f15⟩
  · show OwnEnds _ _ _ _ _ _ _ (T1.setTop (mkF m 4 #[.val (.int p1), .unset, .unset] [(.int (3 : Int32))]))
    refine ogo (fun t k => XS.istoreN X1.here hx rfl (hb hby d2_4) rfl (l' := #[.val (.int p1), .val (.int (3 : Int32)), .unset]) rfl k) ?_
    show OwnEnds _ _ _ _ _ _ _ (T1.setTop (mkF m 5 #[.val (.int p1), .val (.int (3 : Int32)), .unset] []))
    refine ogo (fun t k => XS.iloadN X1.here hx rfl (hb hby d2_5) rfl k) ?_
    show OwnEnds _ _ _ _ _ _ _ (T1.setTop (mkF m 6 #[.val (.int p1), .val (.int (3 : Int32)), .unset] [(.int (3 : Int32))]))
    obtain ⟨T17, h17, k17, X17, e17, E17, A17, B17, st17⟩ := newPE X1 hx hZ (hw _ (List.mem_of_getElem? (i := 7) rfl)) e1 (g := (mkF m 6 #[.val (.int p1), .val (.int (3 : Int32)), .unset] [(.int (3 : Int32))])) rfl (hb hby d2_6) rfl (by decide) (cap := 3) (by decide) (by decide) (by decide) (by decide) (ad := "[B") (by decide)
    obtain ⟨b17, g17⟩ : ∃ z, z = h0.size := ⟨_, rfl⟩
    rw [← g17] at A17 B17 st17
    have q_b17 : n0 ≤ b17 := Nat.le_trans Z0 (Nat.le_of_eq g17.symm)
    have sz_b17 : h0.size ≤ b17 := Nat.le_trans (Keep.refl h0 []).1 (Nat.le_of_eq g17.symm)
    have OLD18 := OLD.ext E17
    have K18 := (Keep.refl h0 []).ext E17
    have Z18 := Nat.le_trans Z0 E17.1
    have V17 : Arv Z h17 b17 k17 .byte (3 : Int32) [(.int (0 : Int32)), (.int (0 : Int32)), (.int (0 : Int32))] (.int (0 : Int32)) := (Arv.new A17 (by decide)).pad (pad_rep [] (.int (0 : Int32)) 3)
    refine ogo st17 ?_
    show OwnEnds _ _ _ _ _ _ _ (T17.setTop (mkF m 8 #[.val (.int p1), .val (.int (3 : Int32)), .unset] [(.ref b17)]))
    refine ogo (fun t k => XS.astoreN X17.here hx rfl (hb hby d2_8) rfl rfl (l' := #[.val (.int p1), .val (.int (3 : Int32)), .val (.ref b17)]) rfl k) ?_
    show OwnEnds _ _ _ _ _ _ _ (T17.setTop (mkF m 9 #[.val (.int p1), .val (.int (3 : Int32)), .val (.ref b17)] []))
    refine ogo (fun t k => XS.iloadN X17.here hx rfl (hb hby d2_9) rfl k) ?_
    show OwnEnds _ _ _ _ _ _ _ (T17.setTop (mkF m 10 #[.val (.int p1), .val (.int (3 : Int32)), .val (.ref b17)] [(.int (3 : Int32))]))
    refine ogo (fun t k => XS.ifNo X17.here hx rfl (hb hby d2_10) rfl ((if0 _ _).trans (tlt (by decide : (0 : Int32) < (3 : Int32))).2.2.2) k) ?_
    show OwnEnds _ _ _ _ _ _ _ (T17.setTop (mkF m 13 #[.val (.int p1), .val (.int (3 : Int32)), .val (.ref b17)] []))
    refine ogo (fun t k => XS.aloadN X17.here hx rfl (hb hby d2_13) rfl rfl k) ?_
    show OwnEnds _ _ _ _ _ _ _ (T17.setTop (mkF m 14 #[.val (.int p1), .val (.int (3 : Int32)), .val (.ref b17)] [(.ref b17)]))
    refine ogo (fun t k => XS.iconst X17.here hx rfl (hb hby d2_14) k) ?_
    show OwnEnds _ _ _ _ _ _ _ (T17.setTop (mkF m 15 #[.val (.int p1), .val (.int (3 : Int32)), .val (.ref b17)] [(.int (0 : Int32)), (.ref b17)]))
    refine ogo (fun t k => XS.iloadN X17.here hx rfl (hb hby d2_15) rfl k) ?_
    show OwnEnds _ _ _ _ _ _ _ (T17.setTop (mkF m 16 #[.val (.int p1), .val (.int (3 : Int32)), .val (.ref b17)] [(.int p1), (.int (0 : Int32)), (.ref b17)]))
    refine ogo (fun t k => XS.i2b X17.here hx rfl (hb hby d2_16) rfl k) ?_
    show OwnEnds _ _ _ _ _ _ _ (T17.setTop (mkF m 17 #[.val (.int p1), .val (.int (3 : Int32)), .val (.ref b17)] [(.int (p1.toInt8.toInt32)), (.int (0 : Int32)), (.ref b17)]))
    obtain ⟨cl19, Ar19, Aq19, As19, An19, Ah19, Ag19⟩ := id V17
    obtain ⟨T19, h19, X19, e19, W19, st19⟩ := stB X17 hx hZ e17 Ar19 (j := (0 : Int32)) (inb_of As19 ⟨by decide, by decide⟩) (g := (mkF m 17 #[.val (.int p1), .val (.int (3 : Int32)), .val (.ref b17)] [(.int (p1.toInt8.toInt32)), (.int (0 : Int32)), (.ref b17)])) rfl rfl (hb hby d2_17)
    rw [own_narb] at W19
    have V19 : Arv Z h19 b17 k17 .byte (3 : Int32) [(.int (p1.toInt8.toInt32)), (.int (0 : Int32)), (.int (0 : Int32))] (.int (0 : Int32)) := Arv.set Ar19 Aq19 As19 An19 Ah19 Ag19 (fits_nar_byte _) W19 0 rfl (Nat.le_of_ble_eq_true rfl)
    have f20 := B17.wr W19
    have N21 := Fr.snoc X19 N1 q_b17
    have OLD21 := OLD18.wr W19 q_b17
    have K21 := K18.wr W19 (Or.inr sz_b17)
    have Z21 := Nat.le_trans Z18 (Nat.le_of_eq W19.size.symm)
    refine ogo st19 ?_
    show OwnEnds _ _ _ _ _ _ _ (T19.setTop (mkF m 18 #[.val (.int p1), .val (.int (3 : Int32)), .val (.ref b17)] []))
    refine ogo (fun t k => XS.iloadN X19.here hx rfl (hb hby d2_18) rfl k) ?_
    show OwnEnds _ _ _ _ _ _ _ (T19.setTop (mkF m 19 #[.val (.int p1), .val (.int (3 : Int32)), .val (.ref b17)] [(.int (3 : Int32))]))
    refine ogo (fun t k => XS.iconst X19.here hx rfl (hb hby d2_19) k) ?_
    show OwnEnds _ _ _ _ _ _ _ (T19.setTop (mkF m 20 #[.val (.int p1), .val (.int (3 : Int32)), .val (.ref b17)] [(.int (1 : Int32)), (.int (3 : Int32))]))
    refine ogo (fun t k => XS.icmpNo X19.here hx rfl (hb hby d2_20) rfl (tlt (by decide : (1 : Int32) < (3 : Int32))).2.2.2 k) ?_
    show OwnEnds _ _ _ _ _ _ _ (T19.setTop (mkF m 23 #[.val (.int p1), .val (.int (3 : Int32)), .val (.ref b17)] []))
    refine ogo (fun t k => XS.aloadN X19.here hx rfl (hb hby d2_23) rfl rfl k) ?_
    show OwnEnds _ _ _ _ _ _ _ (T19.setTop (mkF m 24 #[.val (.int p1), .val (.int (3 : Int32)), .val (.ref b17)] [(.ref b17)]))
    refine ogo (fun t k => XS.iconst X19.here hx rfl (hb hby d2_24) k) ?_
    show OwnEnds _ _ _ _ _ _ _ (T19.setTop (mkF m 25 #[.val (.int p1), .val (.int (3 : Int32)), .val (.ref b17)] [(.int (1 : Int32)), (.ref b17)]))
    refine ogo (fun t k => XS.iloadN X19.here hx rfl (hb hby d2_25) rfl k) ?_
    show OwnEnds _ _ _ _ _ _ _ (T19.setTop (mkF m 26 #[.val (.int p1), .val (.int (3 : Int32)), .val (.ref b17)] [(.int p1), (.int (1 : Int32)), (.ref b17)]))
    refine ogo (fun t k => XS.bipush X19.here hx rfl (hb hby d2_26) k) ?_
    show OwnEnds _ _ _ _ _ _ _ (T19.setTop (mkF m 28 #[.val (.int p1), .val (.int (3 : Int32)), .val (.ref b17)] [(.int (8 : Int32)), (.int p1), (.int (1 : Int32)), (.ref b17)]))
    refine ogo (fun t k => XS.iushr X19.here hx rfl (hb hby d2_28) rfl k) ?_
    show OwnEnds _ _ _ _ _ _ _ (T19.setTop (mkF m 29 #[.val (.int p1), .val (.int (3 : Int32)), .val (.ref b17)] [(.int ((p1.toUInt32 >>> ((8 : Int32) &&& 31).toUInt32).toInt32)), (.int (1 : Int32)), (.ref b17)]))
    refine ogo (fun t k => XS.i2b X19.here hx rfl (hb hby d2_29) rfl k) ?_
    show OwnEnds _ _ _ _ _ _ _ (T19.setTop (mkF m 30 #[.val (.int p1), .val (.int (3 : Int32)), .val (.ref b17)] [(.int (((p1.toUInt32 >>> ((8 : Int32) &&& 31).toUInt32).toInt32).toInt8.toInt32)), (.int (1 : Int32)), (.ref b17)]))
    obtain ⟨cl22, Ar22, Aq22, As22, An22, Ah22, Ag22⟩ := id V19
    obtain ⟨T22, h22, X22, e22, W22, st22⟩ := stB X19 hx hZ e19 Ar22 (j := (1 : Int32)) (inb_of As22 ⟨by decide, by decide⟩) (g := (mkF m 30 #[.val (.int p1), .val (.int (3 : Int32)), .val (.ref b17)] [(.int (((p1.toUInt32 >>> ((8 : Int32) &&& 31).toUInt32).toInt32).toInt8.toInt32)), (.int (1 : Int32)), (.ref b17)])) rfl rfl (hb hby d2_30)
    rw [own_narb] at W22
    have V22 : Arv Z h22 b17 k17 .byte (3 : Int32) [(.int (p1.toInt8.toInt32)), (.int (((p1.toUInt32 >>> ((8 : Int32) &&& 31).toUInt32).toInt32).toInt8.toInt32)), (.int (0 : Int32))] (.int (0 : Int32)) := Arv.set Ar22 Aq22 As22 An22 Ah22 Ag22 (fits_nar_byte _) W22 1 rfl (Nat.le_of_ble_eq_true rfl)
    have f23 := f20.wr W22
    have N24 := Fr.snoc X22 N21 q_b17
    have OLD24 := OLD21.wr W22 q_b17
    have K24 := K21.wr W22 (Or.inr sz_b17)
    have Z24 := Nat.le_trans Z21 (Nat.le_of_eq W22.size.symm)
    refine ogo st22 ?_
    show OwnEnds _ _ _ _ _ _ _ (T22.setTop (mkF m 31 #[.val (.int p1), .val (.int (3 : Int32)), .val (.ref b17)] []))
    refine ogo (fun t k => XS.iloadN X22.here hx rfl (hb hby d2_31) rfl k) ?_
    show OwnEnds _ _ _ _ _ _ _ (T22.setTop (mkF m 32 #[.val (.int p1), .val (.int (3 : Int32)), .val (.ref b17)] [(.int (3 : Int32))]))
    refine ogo (fun t k => XS.iconst X22.here hx rfl (hb hby d2_32) k) ?_
    show OwnEnds _ _ _ _ _ _ _ (T22.setTop (mkF m 33 #[.val (.int p1), .val (.int (3 : Int32)), .val (.ref b17)] [(.int (2 : Int32)), (.int (3 : Int32))]))
    refine ogo (fun t k => XS.icmpNo X22.here hx rfl (hb hby d2_33) rfl (tlt (by decide : (2 : Int32) < (3 : Int32))).2.2.2 k) ?_
    show OwnEnds _ _ _ _ _ _ _ (T22.setTop (mkF m 36 #[.val (.int p1), .val (.int (3 : Int32)), .val (.ref b17)] []))
    refine ogo (fun t k => XS.aloadN X22.here hx rfl (hb hby d2_36) rfl rfl k) ?_
    show OwnEnds _ _ _ _ _ _ _ (T22.setTop (mkF m 37 #[.val (.int p1), .val (.int (3 : Int32)), .val (.ref b17)] [(.ref b17)]))
    refine ogo (fun t k => XS.iconst X22.here hx rfl (hb hby d2_37) k) ?_
    show OwnEnds _ _ _ _ _ _ _ (T22.setTop (mkF m 38 #[.val (.int p1), .val (.int (3 : Int32)), .val (.ref b17)] [(.int (2 : Int32)), (.ref b17)]))
    refine ogo (fun t k => XS.iloadN X22.here hx rfl (hb hby d2_38) rfl k) ?_
    show OwnEnds _ _ _ _ _ _ _ (T22.setTop (mkF m 39 #[.val (.int p1), .val (.int (3 : Int32)), .val (.ref b17)] [(.int p1), (.int (2 : Int32)), (.ref b17)]))
    refine ogo (fun t k => XS.bipush X22.here hx rfl (hb hby d2_39) k) ?_
    show OwnEnds _ _ _ _ _ _ _ (T22.setTop (mkF m 41 #[.val (.int p1), .val (.int (3 : Int32)), .val (.ref b17)] [(.int (16 : Int32)), (.int p1), (.int (2 : Int32)), (.ref b17)]))
    refine ogo (fun t k => XS.iushr X22.here hx rfl (hb hby d2_41) rfl k) ?_
    show OwnEnds _ _ _ _ _ _ _ (T22.setTop (mkF m 42 #[.val (.int p1), .val (.int (3 : Int32)), .val (.ref b17)] [(.int ((p1.toUInt32 >>> ((16 : Int32) &&& 31).toUInt32).toInt32)), (.int (2 : Int32)), (.ref b17)]))
    refine ogo (fun t k => XS.i2b X22.here hx rfl (hb hby d2_42) rfl k) ?_
    show OwnEnds _ _ _ _ _ _ _ (T22.setTop (mkF m 43 #[.val (.int p1), .val (.int (3 : Int32)), .val (.ref b17)] [(.int (((p1.toUInt32 >>> ((16 : Int32) &&& 31).toUInt32).toInt32).toInt8.toInt32)), (.int (2 : Int32)), (.ref b17)]))
    obtain ⟨cl25, Ar25, Aq25, As25, An25, Ah25, Ag25⟩ := id V22
    obtain ⟨T25, h25, X25, e25, W25, st25⟩ := stB X22 hx hZ e22 Ar25 (j := (2 : Int32)) (inb_of As25 ⟨by decide, by decide⟩) (g := (mkF m 43 #[.val (.int p1), .val (.int (3 : Int32)), .val (.ref b17)] [(.int (((p1.toUInt32 >>> ((16 : Int32) &&& 31).toUInt32).toInt32).toInt8.toInt32)), (.int (2 : Int32)), (.ref b17)])) rfl rfl (hb hby d2_43)
    rw [own_narb] at W25
    have V25 : Arv Z h25 b17 k17 .byte (3 : Int32) [(.int (p1.toInt8.toInt32)), (.int (((p1.toUInt32 >>> ((8 : Int32) &&& 31).toUInt32).toInt32).toInt8.toInt32)), (.int (((p1.toUInt32 >>> ((16 : Int32) &&& 31).toUInt32).toInt32).toInt8.toInt32))] (.int (0 : Int32)) := Arv.set Ar25 Aq25 As25 An25 Ah25 Ag25 (fits_nar_byte _) W25 2 rfl (Nat.le_of_ble_eq_true rfl)
    have f26 := f23.wr W25
    have N27 := Fr.snoc X25 N24 q_b17
    have OLD27 := OLD24.wr W25 q_b17
    have K27 := K24.wr W25 (Or.inr sz_b17)
    have Z27 := Nat.le_trans Z24 (Nat.le_of_eq W25.size.symm)
    refine ogo st25 ?_
    show OwnEnds _ _ _ _ _ _ _ (T25.setTop (mkF m 44 #[.val (.int p1), .val (.int (3 : Int32)), .val (.ref b17)] []))
    refine ogo (fun t k => XS.aloadN X25.here hx rfl (hb hby d2_44) rfl rfl k) ?_
    show OwnEnds _ _ _ _ _ _ _ (T25.setTop (mkF m 45 #[.val (.int p1), .val (.int (3 : Int32)), .val (.ref b17)] [(.ref b17)]))
    refine endA X25 hx hlk hret rfl rfl (hb hby d2_45) (by decide) (by decide) ?_
    show Q2 Z p1 h0 n0 _ T25.heap _
    rw [e25]
    have hm : Av Z h25 b17 .byte (own_len p1) (own_bs p1) (.int (0 : Int32)) := by
      rw [hk]
      refine Av.more ⟨_, V25⟩ ?_
      intro i hi
      have hz : (3 : Int32).toNatClampNeg = 3 := by decide
      rw [hz] at hi
      rcases i with _ | _ | _ | i
      · rfl
      · rfl
      · rfl
      · omega
    exact ⟨b17, rfl, sz_b17, N27, K27, hm, f26⟩
theorem d3_0 : decode method_5_code 0 = .ok (.aload_n 0, 1) := by decide +kernel
theorem d3_1 : decode method_5_code 1 = .ok (.arraylength, 1) := by decide +kernel
theorem d3_2 : decode method_5_code 2 = .ok (.ifCond .le 19, 3) := by decide +kernel
theorem d3_5 : decode method_5_code 5 = .ok (.iload_n 1, 1) := by decide +kernel
theorem d3_6 : decode method_5_code 6 = .ok (.iconst 3, 1) := by decide +kernel
theorem d3_7 : decode method_5_code 7 = .ok (.iand, 1) := by decide +kernel
theorem d3_8 : decode method_5_code 8 = .ok (.aload_n 0, 1) := by decide +kernel
theorem d3_9 : decode method_5_code 9 = .ok (.arraylength, 1) := by decide +kernel
theorem d3_10 : decode method_5_code 10 = .ok (.irem, 1) := by decide +kernel
theorem d3_11 : decode method_5_code 11 = .ok (.istore_n 2, 1) := by decide +kernel
theorem d3_12 : decode method_5_code 12 = .ok (.aload_n 0, 1) := by decide +kernel
theorem d3_13 : decode method_5_code 13 = .ok (.iload_n 2, 1) := by decide +kernel
theorem d3_14 : decode method_5_code 14 = .ok (.aload_n 0, 1) := by decide +kernel
theorem d3_15 : decode method_5_code 15 = .ok (.iload_n 2, 1) := by decide +kernel
theorem d3_16 : decode method_5_code 16 = .ok (.baload, 1) := by decide +kernel
theorem d3_17 : decode method_5_code 17 = .ok (.iconst (-1), 1) := by decide +kernel
theorem d3_18 : decode method_5_code 18 = .ok (.ixor, 1) := by decide +kernel
theorem d3_19 : decode method_5_code 19 = .ok (.i2b, 1) := by decide +kernel
theorem d3_20 : decode method_5_code 20 = .ok (.bastore, 1) := by decide +kernel
theorem d3_21 : decode method_5_code 21 = .ok (.return_, 1) := by decide +kernel
theorem ef_3 (m : MethodId) (x0 : Addr) (x1 : Int32) : entryFrame m #[(.ref x0), (.int x1)] 3 = mkF m 0 #[.val (.ref x0), .val (.int x1), .unset] [] := by first | (simp [entryFrame, mkF, argsToLocals, Value.category]; done) | rfl
def Q3 (Z : State) (a1 : Addr) (p1 z1 : Int32) (vs1 : List Value) (h0 : Heap) (n0 : Nat) (v : Option Value) (h : Heap) (L : List Loc) : Prop := v = none ∧ Fr n0 L ∧ Keep h0 h [a1]
set_option maxRecDepth 65536 in
set_option maxHeartbeats 40000000 in
theorem rm3 (l : Launch) (Z : State) (a0 : Array Value) (hw : ∀ d ∈ tables_1, d.before a0 Z = true) (ws : List Jvm.Cond) (a1 : Addr) (p1 z1 : Int32) (vs1 : List Value) (h0 : Heap) (n0 : Nat) (Z0 : n0 ≤ h0.size) (OLD : Old Z n0 h0) (V_1 : Av Z h0 a1 .byte z1 vs1 (.int (0 : Int32))) (hv : ∀ i, ∃ x : Int32, vs1.getD i (.int (0 : Int32)) = .int x) (g1 : n0 ≤ a1) :
    MetFree l (⟨"com/example/once_guard/onceguard/ClaimResultCompletedPinLaw", "spoil", "([BI)V"⟩ : MethodName) (head1 (Jvm.Cond.code (⟨"com/example/once_guard/onceguard/ClaimResultCompletedPinLaw", "spoil", "([BI)V"⟩ : MethodName) method_5_code 3 none :: ws) ({ frames := 0, cells := 0, slots := 0, locals := 0 } : Room)) (fun a U => a = #[(.ref a1), (.int p1)] ∧ Z.Warmed39 U.vm ∧ U.heap = h0) (fun _ _ _ _ _ => True) (fun _ U o U' => ∃ v L, o = .returned v ∧ Q3 Z a1 p1 z1 vs1 h0 n0 v U'.heap L ∧ FrameEnd U o U' L ({ frames := 0, cells := 0, slots := 0, locals := 0 } : Room).cells ({ frames := 0, cells := 0, slots := 0, locals := 0 } : Room).slots) := by
  refine MetFree.of_bodySF (plainFor_of_name pn_ClaimResultCompletedPinLaw) hisR ?_
  intro p e s m args below meth c s₁ Bd hml0 hP hK
  obtain ⟨rfl, hZ, hh⟩ := hP
  have hx := Bd.exec
  have hby := Bd.bytes
  have hml : c.maxLocals = 3 := hml0
  have hown : s.vm.findClass "com/example/once_guard/onceguard/ClaimResultCompletedPinLaw" = some m.cls := findClass_of_methodNamed Bd.named
  have hnm := (name_of_methodNamed Bd.named Bd.method).1
  have hlk : meth.locks = false := BodyLoose.notSynchronized Bd
  have hret := Bd.returns
  have X0 : Stand p l e ({ frames := 0, cells := 0, slots := 0, locals := 0 } : Room) s m #[(.ref a1), (.int p1)] below meth c s₁ [] 0 0 := Stand.of_body Bd
  have e0 : s₁.heap = h0 := by rw [← hh, Bd.state]; rfl
  have N0 := Fr.nil n0
  refine ogo (U' := s₁.setTop (mkF m 0 #[.val (.ref a1), .val (.int p1), .unset] [])) (Q := Q3 Z a1 p1 z1 vs1 h0 n0) (K := ({ frames := 0, cells := 0, slots := 0, locals := 0 } : Room).cells) (N := ({ frames := 0, cells := 0, slots := 0, locals := 0 } : Room).slots) (fun t k => castTop (ef_3 m a1 p1) k) ?_
  show OwnEnds _ _ _ _ _ _ _ (s₁.setTop (mkF m 0 #[.val (.ref a1), .val (.int p1), .unset] []))
  refine ogo (fun t k => XS.aloadN X0.here hx rfl (hb hby d3_0) rfl rfl k) ?_
  show OwnEnds _ _ _ _ _ _ _ (s₁.setTop (mkF m 1 #[.val (.ref a1), .val (.int p1), .unset] [(.ref a1)]))
  obtain ⟨ak1, cl1, Ar1, Aq1, As1, An1, Ah1, Ag1⟩ := id V_1
  refine ogo (fun t k => X0.arraylength hx (by rw [e0]; exact Ar1.1) (State.isArrayOf_alike hZ.alike Ar1.2.1) (g := (mkF m 1 #[.val (.ref a1), .val (.int p1), .unset] [(.ref a1)])) rfl rfl (hb hby d3_1) t k) ?_
  rw [len_of As1 An1]
  show OwnEnds _ _ _ _ _ _ _ (s₁.setTop (mkF m 2 #[.val (.ref a1), .val (.int p1), .unset] [(.int z1)]))
  by_cases hc2 : (0 : Int32) < z1
  · refine ogo (fun t k => XS.ifNo X0.here hx rfl (hb hby d3_2) rfl ((if0 _ _).trans (tlt hc2).2.2.2) k) ?_
    show OwnEnds _ _ _ _ _ _ _ (s₁.setTop (mkF m 5 #[.val (.ref a1), .val (.int p1), .unset] []))
    refine ogo (fun t k => XS.iloadN X0.here hx rfl (hb hby d3_5) rfl k) ?_
    show OwnEnds _ _ _ _ _ _ _ (s₁.setTop (mkF m 6 #[.val (.ref a1), .val (.int p1), .unset] [(.int p1)]))
    refine ogo (fun t k => XS.iconst X0.here hx rfl (hb hby d3_6) k) ?_
    show OwnEnds _ _ _ _ _ _ _ (s₁.setTop (mkF m 7 #[.val (.ref a1), .val (.int p1), .unset] [(.int (3 : Int32)), (.int p1)]))
    refine ogo (fun t k => XS.iand X0.here hx rfl (hb hby d3_7) rfl k) ?_
    show OwnEnds _ _ _ _ _ _ _ (s₁.setTop (mkF m 8 #[.val (.ref a1), .val (.int p1), .unset] [(.int (p1 &&& (3 : Int32)))]))
    refine ogo (fun t k => XS.aloadN X0.here hx rfl (hb hby d3_8) rfl rfl k) ?_
    show OwnEnds _ _ _ _ _ _ _ (s₁.setTop (mkF m 9 #[.val (.ref a1), .val (.int p1), .unset] [(.ref a1), (.int (p1 &&& (3 : Int32)))]))
    obtain ⟨ak3, cl3, Ar3, Aq3, As3, An3, Ah3, Ag3⟩ := id V_1
    refine ogo (fun t k => X0.arraylength hx (by rw [e0]; exact Ar3.1) (State.isArrayOf_alike hZ.alike Ar3.2.1) (g := (mkF m 9 #[.val (.ref a1), .val (.int p1), .unset] [(.ref a1), (.int (p1 &&& (3 : Int32)))])) rfl rfl (hb hby d3_9) t k) ?_
    rw [len_of As3 An3]
    show OwnEnds _ _ _ _ _ _ _ (s₁.setTop (mkF m 10 #[.val (.ref a1), .val (.int p1), .unset] [(.int z1), (.int (p1 &&& (3 : Int32)))]))
    refine ogo (fun t k => iremM (g := (mkF m 10 #[.val (.ref a1), .val (.int p1), .unset] [(.int z1), (.int (p1 &&& (3 : Int32)))])) X0 hx rfl (hb hby d3_10) rfl (own_pos hc2) k) ?_
    show OwnEnds _ _ _ _ _ _ _ (s₁.setTop (mkF m 11 #[.val (.ref a1), .val (.int p1), .unset] [(.int ((p1 &&& (3 : Int32)) % z1))]))
    refine ogo (fun t k => XS.istoreN X0.here hx rfl (hb hby d3_11) rfl (l' := #[.val (.ref a1), .val (.int p1), .val (.int ((p1 &&& (3 : Int32)) % z1))]) rfl k) ?_
    show OwnEnds _ _ _ _ _ _ _ (s₁.setTop (mkF m 12 #[.val (.ref a1), .val (.int p1), .val (.int ((p1 &&& (3 : Int32)) % z1))] []))
    refine ogo (fun t k => XS.aloadN X0.here hx rfl (hb hby d3_12) rfl rfl k) ?_
    show OwnEnds _ _ _ _ _ _ _ (s₁.setTop (mkF m 13 #[.val (.ref a1), .val (.int p1), .val (.int ((p1 &&& (3 : Int32)) % z1))] [(.ref a1)]))
    refine ogo (fun t k => XS.iloadN X0.here hx rfl (hb hby d3_13) rfl k) ?_
    show OwnEnds _ _ _ _ _ _ _ (s₁.setTop (mkF m 14 #[.val (.ref a1), .val (.int p1), .val (.int ((p1 &&& (3 : Int32)) % z1))] [(.int ((p1 &&& (3 : Int32)) % z1)), (.ref a1)]))
    refine ogo (fun t k => XS.aloadN X0.here hx rfl (hb hby d3_14) rfl rfl k) ?_
    show OwnEnds _ _ _ _ _ _ _ (s₁.setTop (mkF m 15 #[.val (.ref a1), .val (.int p1), .val (.int ((p1 &&& (3 : Int32)) % z1))] [(.ref a1), (.int ((p1 &&& (3 : Int32)) % z1)), (.ref a1)]))
    refine ogo (fun t k => XS.iloadN X0.here hx rfl (hb hby d3_15) rfl k) ?_
    show OwnEnds _ _ _ _ _ _ _ (s₁.setTop (mkF m 16 #[.val (.ref a1), .val (.int p1), .val (.int ((p1 &&& (3 : Int32)) % z1))] [(.int ((p1 &&& (3 : Int32)) % z1)), (.ref a1), (.int ((p1 &&& (3 : Int32)) % z1)), (.ref a1)]))
    obtain ⟨ak4, cl4, Ar4, Aq4, As4, An4, Ah4, Ag4⟩ := id V_1
    obtain ⟨xv, hxv⟩ := hv ((p1 &&& (3 : Int32)) % z1).toNatClampNeg
    refine ogo (fun t k => X0.baloadBytes hx (j := ((p1 &&& (3 : Int32)) % z1)) (v := (.int xv)) (by rw [e0]; exact Ar4.1) (State.isArrayOf_alike hZ.alike Ar4.2.1) Ar4.2.2 (inb_of As4 (own_remb p1 hc2)) (Ah4.at (inb_of As4 (own_remb p1 hc2)) hxv) (g := (mkF m 16 #[.val (.ref a1), .val (.int p1), .val (.int ((p1 &&& (3 : Int32)) % z1))] [(.int ((p1 &&& (3 : Int32)) % z1)), (.ref a1), (.int ((p1 &&& (3 : Int32)) % z1)), (.ref a1)])) rfl rfl (hb hby d3_16) t k) ?_
    show OwnEnds _ _ _ _ _ _ _ (s₁.setTop (mkF m 17 #[.val (.ref a1), .val (.int p1), .val (.int ((p1 &&& (3 : Int32)) % z1))] [(.int xv), (.int ((p1 &&& (3 : Int32)) % z1)), (.ref a1)]))
    refine ogo (fun t k => XS.iconst X0.here hx rfl (hb hby d3_17) k) ?_
    show OwnEnds _ _ _ _ _ _ _ (s₁.setTop (mkF m 18 #[.val (.ref a1), .val (.int p1), .val (.int ((p1 &&& (3 : Int32)) % z1))] [(.int (-1 : Int32)), (.int xv), (.int ((p1 &&& (3 : Int32)) % z1)), (.ref a1)]))
    refine ogo (fun t k => XS.ixor X0.here hx rfl (hb hby d3_18) rfl k) ?_
    show OwnEnds _ _ _ _ _ _ _ (s₁.setTop (mkF m 19 #[.val (.ref a1), .val (.int p1), .val (.int ((p1 &&& (3 : Int32)) % z1))] [(.int (xv ^^^ (-1 : Int32))), (.int ((p1 &&& (3 : Int32)) % z1)), (.ref a1)]))
    refine ogo (fun t k => XS.i2b X0.here hx rfl (hb hby d3_19) rfl k) ?_
    show OwnEnds _ _ _ _ _ _ _ (s₁.setTop (mkF m 20 #[.val (.ref a1), .val (.int p1), .val (.int ((p1 &&& (3 : Int32)) % z1))] [(.int ((xv ^^^ (-1 : Int32)).toInt8.toInt32)), (.int ((p1 &&& (3 : Int32)) % z1)), (.ref a1)]))
    obtain ⟨ak5, cl5, Ar5, Aq5, As5, An5, Ah5, Ag5⟩ := id V_1
    obtain ⟨T5, h5, X5, e5, W5, st5⟩ := stB X0 hx hZ e0 Ar5 (j := ((p1 &&& (3 : Int32)) % z1)) (inb_of As5 (own_remb p1 hc2)) (g := (mkF m 20 #[.val (.ref a1), .val (.int p1), .val (.int ((p1 &&& (3 : Int32)) % z1))] [(.int ((xv ^^^ (-1 : Int32)).toInt8.toInt32)), (.int ((p1 &&& (3 : Int32)) % z1)), (.ref a1)])) rfl rfl (hb hby d3_20)
    have N6 := Fr.snoc X5 N0 g1
    have OLD6 := OLD.wr W5 g1
    have K6 := (Keep.refl h0 [a1]).wr W5 (Or.inl (List.mem_of_getElem? (i := 0) rfl))
    have Z6 := Nat.le_trans Z0 (Nat.le_of_eq W5.size.symm)
    refine ogo st5 ?_
    show OwnEnds _ _ _ _ _ _ _ (T5.setTop (mkF m 21 #[.val (.ref a1), .val (.int p1), .val (.int ((p1 &&& (3 : Int32)) % z1))] []))
    refine endV X5 hx hlk hret (hb hby d3_21) (by decide) (by decide) ?_
    show Q3 Z a1 p1 z1 vs1 h0 n0 _ T5.heap _
    rw [e5]
    exact ⟨rfl, N6, K6⟩
  · refine ogo (fun t k => XS.ifYes X0.here hx rfl (pc0 := 2) (pc' := 21) rfl (hb hby d3_2) rfl ((if0 _ _).trans (flt hc2).2.2.2) (by decide) (by decide) k) ?_
    show OwnEnds _ _ _ _ _ _ _ (s₁.setTop (mkF m 21 #[.val (.ref a1), .val (.int p1), .unset] []))
    refine endV X0 hx hlk hret (hb hby d3_21) (by decide) (by decide) ?_
    show Q3 Z a1 p1 z1 vs1 h0 n0 _ s₁.heap _
    rw [e0]
    exact ⟨rfl, N0, (Keep.refl h0 [a1])⟩
theorem d4_0 : decode method_6_code 0 = .ok (.iload_n 1, 1) := by decide +kernel
theorem d4_1 : decode method_6_code 1 = .ok (.invokestatic 44, 3) := by decide +kernel
theorem d4_4 : decode method_6_code 4 = .ok (.istore_n 2, 1) := by decide +kernel
theorem d4_5 : decode method_6_code 5 = .ok (.aload_n 0, 1) := by decide +kernel
theorem d4_6 : decode method_6_code 6 = .ok (.ifnull 9, 3) := by decide +kernel
theorem d4_9 : decode method_6_code 9 = .ok (.aload_n 0, 1) := by decide +kernel
theorem d4_10 : decode method_6_code 10 = .ok (.arraylength, 1) := by decide +kernel
theorem d4_11 : decode method_6_code 11 = .ok (.iload_n 2, 1) := by decide +kernel
theorem d4_12 : decode method_6_code 12 = .ok (.if_icmp .eq 5, 3) := by decide +kernel
theorem d4_17 : decode method_6_code 17 = .ok (.iload_n 2, 1) := by decide +kernel
theorem d4_18 : decode method_6_code 18 = .ok (.ifCond .le 13, 3) := by decide +kernel
theorem d4_21 : decode method_6_code 21 = .ok (.aload_n 0, 1) := by decide +kernel
theorem d4_22 : decode method_6_code 22 = .ok (.iconst 0, 1) := by decide +kernel
theorem d4_23 : decode method_6_code 23 = .ok (.baload, 1) := by decide +kernel
theorem d4_24 : decode method_6_code 24 = .ok (.iload_n 1, 1) := by decide +kernel
theorem d4_25 : decode method_6_code 25 = .ok (.i2b, 1) := by decide +kernel
theorem d4_26 : decode method_6_code 26 = .ok (.if_icmp .eq 5, 3) := by decide +kernel
theorem d4_31 : decode method_6_code 31 = .ok (.iload_n 2, 1) := by decide +kernel
theorem d4_32 : decode method_6_code 32 = .ok (.iconst 1, 1) := by decide +kernel
theorem d4_33 : decode method_6_code 33 = .ok (.if_icmp .le 16, 3) := by decide +kernel
theorem d4_36 : decode method_6_code 36 = .ok (.aload_n 0, 1) := by decide +kernel
theorem d4_37 : decode method_6_code 37 = .ok (.iconst 1, 1) := by decide +kernel
theorem d4_38 : decode method_6_code 38 = .ok (.baload, 1) := by decide +kernel
theorem d4_39 : decode method_6_code 39 = .ok (.iload_n 1, 1) := by decide +kernel
theorem d4_40 : decode method_6_code 40 = .ok (.bipush 8, 2) := by decide +kernel
theorem d4_42 : decode method_6_code 42 = .ok (.iushr, 1) := by decide +kernel
theorem d4_43 : decode method_6_code 43 = .ok (.i2b, 1) := by decide +kernel
theorem d4_44 : decode method_6_code 44 = .ok (.if_icmp .eq 5, 3) := by decide +kernel
theorem d4_49 : decode method_6_code 49 = .ok (.iload_n 2, 1) := by decide +kernel
theorem d4_50 : decode method_6_code 50 = .ok (.iconst 2, 1) := by decide +kernel
theorem d4_51 : decode method_6_code 51 = .ok (.if_icmp .le 16, 3) := by decide +kernel
theorem d4_54 : decode method_6_code 54 = .ok (.aload_n 0, 1) := by decide +kernel
theorem d4_55 : decode method_6_code 55 = .ok (.iconst 2, 1) := by decide +kernel
theorem d4_56 : decode method_6_code 56 = .ok (.baload, 1) := by decide +kernel
theorem d4_57 : decode method_6_code 57 = .ok (.iload_n 1, 1) := by decide +kernel
theorem d4_58 : decode method_6_code 58 = .ok (.bipush 16, 2) := by decide +kernel
theorem d4_60 : decode method_6_code 60 = .ok (.iushr, 1) := by decide +kernel
theorem d4_61 : decode method_6_code 61 = .ok (.i2b, 1) := by decide +kernel
theorem d4_62 : decode method_6_code 62 = .ok (.if_icmp .eq 5, 3) := by decide +kernel
theorem d4_67 : decode method_6_code 67 = .ok (.iconst 1, 1) := by decide +kernel
theorem d4_68 : decode method_6_code 68 = .ok (.ireturn, 1) := by decide +kernel
theorem ef_4 (m : MethodId) (x0 : Addr) (x1 : Int32) : entryFrame m #[(.ref x0), (.int x1)] 3 = mkF m 0 #[.val (.ref x0), .val (.int x1), .unset] [] := by first | (simp [entryFrame, mkF, argsToLocals, Value.category]; done) | rfl
def Q4 (Z : State) (a1 : Addr) (p1 : Int32) (h0 : Heap) (n0 : Nat) (v : Option Value) (h : Heap) (L : List Loc) : Prop := v = some (.int 1) ∧ Fr n0 L ∧ h = h0
set_option maxRecDepth 65536 in
set_option maxHeartbeats 40000000 in
theorem rm4 (l : Launch) (Z : State) (a0 : Array Value) (hw : ∀ d ∈ tables_1, d.before a0 Z = true) (ws : List Jvm.Cond) (a1 : Addr) (p1 : Int32) (h0 : Heap) (n0 : Nat) (Z0 : n0 ≤ h0.size) (V_1 : Av Z h0 a1 .byte (own_len p1) (own_bs p1) (.int (0 : Int32))) :
    MetFree l (⟨"com/example/once_guard/onceguard/ClaimResultCompletedPinLaw", "matches", "([BI)Z"⟩ : MethodName) (head1 (Jvm.Cond.code (⟨"com/example/once_guard/onceguard/ClaimResultCompletedPinLaw", "matches", "([BI)Z"⟩ : MethodName) method_6_code 3 (some .boolean) :: ws) ({ frames := 1, cells := 0, slots := 0, locals := 12 } : Room)) (fun a U => a = #[(.ref a1), (.int p1)] ∧ Z.Warmed39 U.vm ∧ U.heap = h0) (fun _ _ _ _ _ => True) (fun _ U o U' => ∃ v L, o = .returned v ∧ Q4 Z a1 p1 h0 n0 v U'.heap L ∧ FrameEnd U o U' L ({ frames := 1, cells := 0, slots := 0, locals := 12 } : Room).cells ({ frames := 1, cells := 0, slots := 0, locals := 12 } : Room).slots) := by
  refine MetFree.of_bodySF (plainFor_of_name pn_ClaimResultCompletedPinLaw) hisR ?_
  intro p e s m args below meth c s₁ Bd hml0 hP hK
  obtain ⟨rfl, hZ, hh⟩ := hP
  have hx := Bd.exec
  have hby := Bd.bytes
  have hml : c.maxLocals = 3 := hml0
  have hown : s.vm.findClass "com/example/once_guard/onceguard/ClaimResultCompletedPinLaw" = some m.cls := findClass_of_methodNamed Bd.named
  have hnm := (name_of_methodNamed Bd.named Bd.method).1
  have hlk : meth.locks = false := BodyLoose.notSynchronized Bd
  have hret := Bd.returns
  have X0 : Stand p l e ({ frames := 1, cells := 0, slots := 0, locals := 12 } : Room) s m #[(.ref a1), (.int p1)] below meth c s₁ [] 0 0 := Stand.of_body Bd
  have e0 : s₁.heap = h0 := by rw [← hh, Bd.state]; rfl
  have N0 := Fr.nil n0
  refine ogo (U' := s₁.setTop (mkF m 0 #[.val (.ref a1), .val (.int p1), .unset] [])) (Q := Q4 Z a1 p1 h0 n0) (K := ({ frames := 1, cells := 0, slots := 0, locals := 12 } : Room).cells) (N := ({ frames := 1, cells := 0, slots := 0, locals := 12 } : Room).slots) (fun t k => castTop (ef_4 m a1 p1) k) ?_
  show OwnEnds _ _ _ _ _ _ _ (s₁.setTop (mkF m 0 #[.val (.ref a1), .val (.int p1), .unset] []))
  refine ogo (fun t k => XS.iloadN X0.here hx rfl (hb hby d4_0) rfl k) ?_
  show OwnEnds _ _ _ _ _ _ _ (s₁.setTop (mkF m 1 #[.val (.ref a1), .val (.int p1), .unset] [(.int p1)]))
  obtain ⟨v1, _, ⟨T1, L1, k1, n1⟩, -, X1, ⟨Lc1, hQ1, l1, y1, z1⟩, st1⟩ := Jvm.LawKit.callS X0 hx (y := (⟨"com/example/once_guard/onceguard/ClaimResultCompletedPinLaw", "len", "(I)I"⟩ : MethodName)) hown (mvT hZ (hw _ (List.mem_of_getElem? (i := 4) rfl))) (mvT hZ (hw _ (List.mem_of_getElem? (i := 5) rfl))) (mvT hZ (hw _ (List.mem_of_getElem? (i := 2) rfl))) (mvT hZ (hw _ (List.mem_of_getElem? (i := 6) rfl))) (by decide) (backOf (W := 0) (rm1 l Z a0 hw [] p1 h0 n0 Z0 ) hZ (hw _ (List.mem_of_getElem? (i := 6) rfl)) (hw _ (List.mem_of_getElem? (i := 2) rfl)) (by decide) (by decide)) (g := (mkF m 1 #[.val (.ref a1), .val (.int p1), .unset] [(.int p1)])) rfl (by rw [hml]; rfl) (argsL := [(.int p1)]) (rest := []) (lenOf pd__I_I rfl) rfl (by show 2 * 0 + _ ≤ _; exact Nat.le_of_eq rfl) (hb hby d4_1) (fun _ _ => ⟨rfl, e0, (by decide : 0 + 0 ≤ _), (by decide : 0 + 0 ≤ _)⟩)
  dsimp only [Pt.U, Pt.locs, Pt.cells, Pt.slots] at X1 l1 y1 z1 st1 hQ1
  subst l1 y1 z1
  obtain ⟨rfl, N1q, e1⟩ := hQ1
  have N1 := Fr.app N0 N1q
  refine ogo (fun t k => st1 t k) ?_
  show OwnEnds _ _ _ _ _ _ _ (T1.setTop (mkF m 4 #[.val (.ref a1), .val (.int p1), .unset] [(.int (own_len p1))]))
  refine ogo (fun t k => XS.istoreN X1.here hx rfl (hb hby d4_4) rfl (l' := #[.val (.ref a1), .val (.int p1), .val (.int (own_len p1))]) rfl k) ?_
  show OwnEnds _ _ _ _ _ _ _ (T1.setTop (mkF m 5 #[.val (.ref a1), .val (.int p1), .val (.int (own_len p1))] []))
  refine ogo (fun t k => XS.aloadN X1.here hx rfl (hb hby d4_5) rfl rfl k) ?_
  show OwnEnds _ _ _ _ _ _ _ (T1.setTop (mkF m 6 #[.val (.ref a1), .val (.int p1), .val (.int (own_len p1))] [(.ref a1)]))
  refine ogo (fun t k => XS.ifnullNo X1.here hx rfl (hb hby d4_6) rfl k) ?_
  show OwnEnds _ _ _ _ _ _ _ (T1.setTop (mkF m 9 #[.val (.ref a1), .val (.int p1), .val (.int (own_len p1))] []))
  refine ogo (fun t k => XS.aloadN X1.here hx rfl (hb hby d4_9) rfl rfl k) ?_
  show OwnEnds _ _ _ _ _ _ _ (T1.setTop (mkF m 10 #[.val (.ref a1), .val (.int p1), .val (.int (own_len p1))] [(.ref a1)]))
  obtain ⟨ak2, cl2, Ar2, Aq2, As2, An2, Ah2, Ag2⟩ := id V_1
  refine ogo (fun t k => X1.arraylength hx (by rw [e1]; exact Ar2.1) (State.isArrayOf_alike hZ.alike Ar2.2.1) (g := (mkF m 10 #[.val (.ref a1), .val (.int p1), .val (.int (own_len p1))] [(.ref a1)])) rfl rfl (hb hby d4_10) t k) ?_
  rw [len_of As2 An2]
  show OwnEnds _ _ _ _ _ _ _ (T1.setTop (mkF m 11 #[.val (.ref a1), .val (.int p1), .val (.int (own_len p1))] [(.int (own_len p1))]))
  refine ogo (fun t k => XS.iloadN X1.here hx rfl (hb hby d4_11) rfl k) ?_
  show OwnEnds _ _ _ _ _ _ _ (T1.setTop (mkF m 12 #[.val (.ref a1), .val (.int p1), .val (.int (own_len p1))] [(.int (own_len p1)), (.int (own_len p1))]))
  refine ogo (fun t k => XS.icmpYes X1.here hx rfl (pc0 := 12) (pc' := 17) rfl (hb hby d4_12) rfl (teq (rfl : (own_len p1) = (own_len p1))).1 (by decide) (by decide) k) ?_
  show OwnEnds _ _ _ _ _ _ _ (T1.setTop (mkF m 17 #[.val (.ref a1), .val (.int p1), .val (.int (own_len p1))] []))
  refine ogo (fun t k => XS.iloadN X1.here hx rfl (hb hby d4_17) rfl k) ?_
  show OwnEnds _ _ _ _ _ _ _ (T1.setTop (mkF m 18 #[.val (.ref a1), .val (.int p1), .val (.int (own_len p1))] [(.int (own_len p1))]))
  by_cases hc3 : (0 : Int32) < (own_len p1)
  · refine ogo (fun t k => XS.ifNo X1.here hx rfl (hb hby d4_18) rfl ((if0 _ _).trans (tlt hc3).2.2.2) k) ?_
    show OwnEnds _ _ _ _ _ _ _ (T1.setTop (mkF m 21 #[.val (.ref a1), .val (.int p1), .val (.int (own_len p1))] []))
    refine ogo (fun t k => XS.aloadN X1.here hx rfl (hb hby d4_21) rfl rfl k) ?_
    show OwnEnds _ _ _ _ _ _ _ (T1.setTop (mkF m 22 #[.val (.ref a1), .val (.int p1), .val (.int (own_len p1))] [(.ref a1)]))
    refine ogo (fun t k => XS.iconst X1.here hx rfl (hb hby d4_22) k) ?_
    show OwnEnds _ _ _ _ _ _ _ (T1.setTop (mkF m 23 #[.val (.ref a1), .val (.int p1), .val (.int (own_len p1))] [(.int (0 : Int32)), (.ref a1)]))
    obtain ⟨ak4, cl4, Ar4, Aq4, As4, An4, Ah4, Ag4⟩ := id V_1
    refine ogo (fun t k => X1.baloadBytes hx (j := (0 : Int32)) (v := (.int (p1.toInt8.toInt32))) (by rw [e1]; exact Ar4.1) (State.isArrayOf_alike hZ.alike Ar4.2.1) Ar4.2.2 (inb_of As4 ⟨by decide, hc3⟩) (Ah4.at (inb_of As4 ⟨by decide, hc3⟩) rfl) (g := (mkF m 23 #[.val (.ref a1), .val (.int p1), .val (.int (own_len p1))] [(.int (0 : Int32)), (.ref a1)])) rfl rfl (hb hby d4_23) t k) ?_
    show OwnEnds _ _ _ _ _ _ _ (T1.setTop (mkF m 24 #[.val (.ref a1), .val (.int p1), .val (.int (own_len p1))] [(.int (p1.toInt8.toInt32))]))
    refine ogo (fun t k => XS.iloadN X1.here hx rfl (hb hby d4_24) rfl k) ?_
    show OwnEnds _ _ _ _ _ _ _ (T1.setTop (mkF m 25 #[.val (.ref a1), .val (.int p1), .val (.int (own_len p1))] [(.int p1), (.int (p1.toInt8.toInt32))]))
    refine ogo (fun t k => XS.i2b X1.here hx rfl (hb hby d4_25) rfl k) ?_
    show OwnEnds _ _ _ _ _ _ _ (T1.setTop (mkF m 26 #[.val (.ref a1), .val (.int p1), .val (.int (own_len p1))] [(.int (p1.toInt8.toInt32)), (.int (p1.toInt8.toInt32))]))
    refine ogo (fun t k => XS.icmpYes X1.here hx rfl (pc0 := 26) (pc' := 31) rfl (hb hby d4_26) rfl (teq (rfl : (p1.toInt8.toInt32) = (p1.toInt8.toInt32))).1 (by decide) (by decide) k) ?_
    show OwnEnds _ _ _ _ _ _ _ (T1.setTop (mkF m 31 #[.val (.ref a1), .val (.int p1), .val (.int (own_len p1))] []))
    refine ogo (fun t k => XS.iloadN X1.here hx rfl (hb hby d4_31) rfl k) ?_
    show OwnEnds _ _ _ _ _ _ _ (T1.setTop (mkF m 32 #[.val (.ref a1), .val (.int p1), .val (.int (own_len p1))] [(.int (own_len p1))]))
    refine ogo (fun t k => XS.iconst X1.here hx rfl (hb hby d4_32) k) ?_
    show OwnEnds _ _ _ _ _ _ _ (T1.setTop (mkF m 33 #[.val (.ref a1), .val (.int p1), .val (.int (own_len p1))] [(.int (1 : Int32)), (.int (own_len p1))]))
    by_cases hc5 : (1 : Int32) < (own_len p1)
    · refine ogo (fun t k => XS.icmpNo X1.here hx rfl (hb hby d4_33) rfl (tlt hc5).2.2.2 k) ?_
      show OwnEnds _ _ _ _ _ _ _ (T1.setTop (mkF m 36 #[.val (.ref a1), .val (.int p1), .val (.int (own_len p1))] []))
      refine ogo (fun t k => XS.aloadN X1.here hx rfl (hb hby d4_36) rfl rfl k) ?_
      show OwnEnds _ _ _ _ _ _ _ (T1.setTop (mkF m 37 #[.val (.ref a1), .val (.int p1), .val (.int (own_len p1))] [(.ref a1)]))
      refine ogo (fun t k => XS.iconst X1.here hx rfl (hb hby d4_37) k) ?_
      show OwnEnds _ _ _ _ _ _ _ (T1.setTop (mkF m 38 #[.val (.ref a1), .val (.int p1), .val (.int (own_len p1))] [(.int (1 : Int32)), (.ref a1)]))
      obtain ⟨ak6, cl6, Ar6, Aq6, As6, An6, Ah6, Ag6⟩ := id V_1
      refine ogo (fun t k => X1.baloadBytes hx (j := (1 : Int32)) (v := (.int (((p1.toUInt32 >>> ((8 : Int32) &&& 31).toUInt32).toInt32).toInt8.toInt32))) (by rw [e1]; exact Ar6.1) (State.isArrayOf_alike hZ.alike Ar6.2.1) Ar6.2.2 (inb_of As6 ⟨by decide, hc5⟩) (Ah6.at (inb_of As6 ⟨by decide, hc5⟩) rfl) (g := (mkF m 38 #[.val (.ref a1), .val (.int p1), .val (.int (own_len p1))] [(.int (1 : Int32)), (.ref a1)])) rfl rfl (hb hby d4_38) t k) ?_
      show OwnEnds _ _ _ _ _ _ _ (T1.setTop (mkF m 39 #[.val (.ref a1), .val (.int p1), .val (.int (own_len p1))] [(.int (((p1.toUInt32 >>> ((8 : Int32) &&& 31).toUInt32).toInt32).toInt8.toInt32))]))
      refine ogo (fun t k => XS.iloadN X1.here hx rfl (hb hby d4_39) rfl k) ?_
      show OwnEnds _ _ _ _ _ _ _ (T1.setTop (mkF m 40 #[.val (.ref a1), .val (.int p1), .val (.int (own_len p1))] [(.int p1), (.int (((p1.toUInt32 >>> ((8 : Int32) &&& 31).toUInt32).toInt32).toInt8.toInt32))]))
      refine ogo (fun t k => XS.bipush X1.here hx rfl (hb hby d4_40) k) ?_
      show OwnEnds _ _ _ _ _ _ _ (T1.setTop (mkF m 42 #[.val (.ref a1), .val (.int p1), .val (.int (own_len p1))] [(.int (8 : Int32)), (.int p1), (.int (((p1.toUInt32 >>> ((8 : Int32) &&& 31).toUInt32).toInt32).toInt8.toInt32))]))
      refine ogo (fun t k => XS.iushr X1.here hx rfl (hb hby d4_42) rfl k) ?_
      show OwnEnds _ _ _ _ _ _ _ (T1.setTop (mkF m 43 #[.val (.ref a1), .val (.int p1), .val (.int (own_len p1))] [(.int ((p1.toUInt32 >>> ((8 : Int32) &&& 31).toUInt32).toInt32)), (.int (((p1.toUInt32 >>> ((8 : Int32) &&& 31).toUInt32).toInt32).toInt8.toInt32))]))
      refine ogo (fun t k => XS.i2b X1.here hx rfl (hb hby d4_43) rfl k) ?_
      show OwnEnds _ _ _ _ _ _ _ (T1.setTop (mkF m 44 #[.val (.ref a1), .val (.int p1), .val (.int (own_len p1))] [(.int (((p1.toUInt32 >>> ((8 : Int32) &&& 31).toUInt32).toInt32).toInt8.toInt32)), (.int (((p1.toUInt32 >>> ((8 : Int32) &&& 31).toUInt32).toInt32).toInt8.toInt32))]))
      refine ogo (fun t k => XS.icmpYes X1.here hx rfl (pc0 := 44) (pc' := 49) rfl (hb hby d4_44) rfl (teq (rfl : (((p1.toUInt32 >>> ((8 : Int32) &&& 31).toUInt32).toInt32).toInt8.toInt32) = (((p1.toUInt32 >>> ((8 : Int32) &&& 31).toUInt32).toInt32).toInt8.toInt32))).1 (by decide) (by decide) k) ?_
      show OwnEnds _ _ _ _ _ _ _ (T1.setTop (mkF m 49 #[.val (.ref a1), .val (.int p1), .val (.int (own_len p1))] []))
      refine ogo (fun t k => XS.iloadN X1.here hx rfl (hb hby d4_49) rfl k) ?_
      show OwnEnds _ _ _ _ _ _ _ (T1.setTop (mkF m 50 #[.val (.ref a1), .val (.int p1), .val (.int (own_len p1))] [(.int (own_len p1))]))
      refine ogo (fun t k => XS.iconst X1.here hx rfl (hb hby d4_50) k) ?_
      show OwnEnds _ _ _ _ _ _ _ (T1.setTop (mkF m 51 #[.val (.ref a1), .val (.int p1), .val (.int (own_len p1))] [(.int (2 : Int32)), (.int (own_len p1))]))
      by_cases hc7 : (2 : Int32) < (own_len p1)
      · refine ogo (fun t k => XS.icmpNo X1.here hx rfl (hb hby d4_51) rfl (tlt hc7).2.2.2 k) ?_
        show OwnEnds _ _ _ _ _ _ _ (T1.setTop (mkF m 54 #[.val (.ref a1), .val (.int p1), .val (.int (own_len p1))] []))
        refine ogo (fun t k => XS.aloadN X1.here hx rfl (hb hby d4_54) rfl rfl k) ?_
        show OwnEnds _ _ _ _ _ _ _ (T1.setTop (mkF m 55 #[.val (.ref a1), .val (.int p1), .val (.int (own_len p1))] [(.ref a1)]))
        refine ogo (fun t k => XS.iconst X1.here hx rfl (hb hby d4_55) k) ?_
        show OwnEnds _ _ _ _ _ _ _ (T1.setTop (mkF m 56 #[.val (.ref a1), .val (.int p1), .val (.int (own_len p1))] [(.int (2 : Int32)), (.ref a1)]))
        obtain ⟨ak8, cl8, Ar8, Aq8, As8, An8, Ah8, Ag8⟩ := id V_1
        refine ogo (fun t k => X1.baloadBytes hx (j := (2 : Int32)) (v := (.int (((p1.toUInt32 >>> ((16 : Int32) &&& 31).toUInt32).toInt32).toInt8.toInt32))) (by rw [e1]; exact Ar8.1) (State.isArrayOf_alike hZ.alike Ar8.2.1) Ar8.2.2 (inb_of As8 ⟨by decide, hc7⟩) (Ah8.at (inb_of As8 ⟨by decide, hc7⟩) rfl) (g := (mkF m 56 #[.val (.ref a1), .val (.int p1), .val (.int (own_len p1))] [(.int (2 : Int32)), (.ref a1)])) rfl rfl (hb hby d4_56) t k) ?_
        show OwnEnds _ _ _ _ _ _ _ (T1.setTop (mkF m 57 #[.val (.ref a1), .val (.int p1), .val (.int (own_len p1))] [(.int (((p1.toUInt32 >>> ((16 : Int32) &&& 31).toUInt32).toInt32).toInt8.toInt32))]))
        refine ogo (fun t k => XS.iloadN X1.here hx rfl (hb hby d4_57) rfl k) ?_
        show OwnEnds _ _ _ _ _ _ _ (T1.setTop (mkF m 58 #[.val (.ref a1), .val (.int p1), .val (.int (own_len p1))] [(.int p1), (.int (((p1.toUInt32 >>> ((16 : Int32) &&& 31).toUInt32).toInt32).toInt8.toInt32))]))
        refine ogo (fun t k => XS.bipush X1.here hx rfl (hb hby d4_58) k) ?_
        show OwnEnds _ _ _ _ _ _ _ (T1.setTop (mkF m 60 #[.val (.ref a1), .val (.int p1), .val (.int (own_len p1))] [(.int (16 : Int32)), (.int p1), (.int (((p1.toUInt32 >>> ((16 : Int32) &&& 31).toUInt32).toInt32).toInt8.toInt32))]))
        refine ogo (fun t k => XS.iushr X1.here hx rfl (hb hby d4_60) rfl k) ?_
        show OwnEnds _ _ _ _ _ _ _ (T1.setTop (mkF m 61 #[.val (.ref a1), .val (.int p1), .val (.int (own_len p1))] [(.int ((p1.toUInt32 >>> ((16 : Int32) &&& 31).toUInt32).toInt32)), (.int (((p1.toUInt32 >>> ((16 : Int32) &&& 31).toUInt32).toInt32).toInt8.toInt32))]))
        refine ogo (fun t k => XS.i2b X1.here hx rfl (hb hby d4_61) rfl k) ?_
        show OwnEnds _ _ _ _ _ _ _ (T1.setTop (mkF m 62 #[.val (.ref a1), .val (.int p1), .val (.int (own_len p1))] [(.int (((p1.toUInt32 >>> ((16 : Int32) &&& 31).toUInt32).toInt32).toInt8.toInt32)), (.int (((p1.toUInt32 >>> ((16 : Int32) &&& 31).toUInt32).toInt32).toInt8.toInt32))]))
        refine ogo (fun t k => XS.icmpYes X1.here hx rfl (pc0 := 62) (pc' := 67) rfl (hb hby d4_62) rfl (teq (rfl : (((p1.toUInt32 >>> ((16 : Int32) &&& 31).toUInt32).toInt32).toInt8.toInt32) = (((p1.toUInt32 >>> ((16 : Int32) &&& 31).toUInt32).toInt32).toInt8.toInt32))).1 (by decide) (by decide) k) ?_
        show OwnEnds _ _ _ _ _ _ _ (T1.setTop (mkF m 67 #[.val (.ref a1), .val (.int p1), .val (.int (own_len p1))] []))
        refine ogo (fun t k => XS.iconst X1.here hx rfl (hb hby d4_67) k) ?_
        show OwnEnds _ _ _ _ _ _ _ (T1.setTop (mkF m 68 #[.val (.ref a1), .val (.int p1), .val (.int (own_len p1))] [(.int (1 : Int32))]))
        refine endZ X1 hx hlk hret rfl (hb hby d4_68) (by decide) (by decide) ?_
        show Q4 Z a1 p1 h0 n0 _ T1.heap _
        rw [e1]
        exact ⟨by simp [hc3, hc5, hc7], N1, rfl⟩
      · refine ogo (fun t k => XS.icmpYes X1.here hx rfl (pc0 := 51) (pc' := 67) rfl (hb hby d4_51) rfl (flt hc7).2.2.2 (by decide) (by decide) k) ?_
        show OwnEnds _ _ _ _ _ _ _ (T1.setTop (mkF m 67 #[.val (.ref a1), .val (.int p1), .val (.int (own_len p1))] []))
        refine ogo (fun t k => XS.iconst X1.here hx rfl (hb hby d4_67) k) ?_
        show OwnEnds _ _ _ _ _ _ _ (T1.setTop (mkF m 68 #[.val (.ref a1), .val (.int p1), .val (.int (own_len p1))] [(.int (1 : Int32))]))
        refine endZ X1 hx hlk hret rfl (hb hby d4_68) (by decide) (by decide) ?_
        show Q4 Z a1 p1 h0 n0 _ T1.heap _
        rw [e1]
        exact ⟨by simp [hc3, hc5, hc7], N1, rfl⟩
    · refine ogo (fun t k => XS.icmpYes X1.here hx rfl (pc0 := 33) (pc' := 49) rfl (hb hby d4_33) rfl (flt hc5).2.2.2 (by decide) (by decide) k) ?_
      show OwnEnds _ _ _ _ _ _ _ (T1.setTop (mkF m 49 #[.val (.ref a1), .val (.int p1), .val (.int (own_len p1))] []))
      refine ogo (fun t k => XS.iloadN X1.here hx rfl (hb hby d4_49) rfl k) ?_
      show OwnEnds _ _ _ _ _ _ _ (T1.setTop (mkF m 50 #[.val (.ref a1), .val (.int p1), .val (.int (own_len p1))] [(.int (own_len p1))]))
      refine ogo (fun t k => XS.iconst X1.here hx rfl (hb hby d4_50) k) ?_
      show OwnEnds _ _ _ _ _ _ _ (T1.setTop (mkF m 51 #[.val (.ref a1), .val (.int p1), .val (.int (own_len p1))] [(.int (2 : Int32)), (.int (own_len p1))]))
      by_cases hc9 : (2 : Int32) < (own_len p1)
      · refine ogo (fun t k => XS.icmpNo X1.here hx rfl (hb hby d4_51) rfl (tlt hc9).2.2.2 k) ?_
        show OwnEnds _ _ _ _ _ _ _ (T1.setTop (mkF m 54 #[.val (.ref a1), .val (.int p1), .val (.int (own_len p1))] []))
        refine ogo (fun t k => XS.aloadN X1.here hx rfl (hb hby d4_54) rfl rfl k) ?_
        show OwnEnds _ _ _ _ _ _ _ (T1.setTop (mkF m 55 #[.val (.ref a1), .val (.int p1), .val (.int (own_len p1))] [(.ref a1)]))
        refine ogo (fun t k => XS.iconst X1.here hx rfl (hb hby d4_55) k) ?_
        show OwnEnds _ _ _ _ _ _ _ (T1.setTop (mkF m 56 #[.val (.ref a1), .val (.int p1), .val (.int (own_len p1))] [(.int (2 : Int32)), (.ref a1)]))
        obtain ⟨ak10, cl10, Ar10, Aq10, As10, An10, Ah10, Ag10⟩ := id V_1
        refine ogo (fun t k => X1.baloadBytes hx (j := (2 : Int32)) (v := (.int (((p1.toUInt32 >>> ((16 : Int32) &&& 31).toUInt32).toInt32).toInt8.toInt32))) (by rw [e1]; exact Ar10.1) (State.isArrayOf_alike hZ.alike Ar10.2.1) Ar10.2.2 (inb_of As10 ⟨by decide, hc9⟩) (Ah10.at (inb_of As10 ⟨by decide, hc9⟩) rfl) (g := (mkF m 56 #[.val (.ref a1), .val (.int p1), .val (.int (own_len p1))] [(.int (2 : Int32)), (.ref a1)])) rfl rfl (hb hby d4_56) t k) ?_
        show OwnEnds _ _ _ _ _ _ _ (T1.setTop (mkF m 57 #[.val (.ref a1), .val (.int p1), .val (.int (own_len p1))] [(.int (((p1.toUInt32 >>> ((16 : Int32) &&& 31).toUInt32).toInt32).toInt8.toInt32))]))
        refine ogo (fun t k => XS.iloadN X1.here hx rfl (hb hby d4_57) rfl k) ?_
        show OwnEnds _ _ _ _ _ _ _ (T1.setTop (mkF m 58 #[.val (.ref a1), .val (.int p1), .val (.int (own_len p1))] [(.int p1), (.int (((p1.toUInt32 >>> ((16 : Int32) &&& 31).toUInt32).toInt32).toInt8.toInt32))]))
        refine ogo (fun t k => XS.bipush X1.here hx rfl (hb hby d4_58) k) ?_
        show OwnEnds _ _ _ _ _ _ _ (T1.setTop (mkF m 60 #[.val (.ref a1), .val (.int p1), .val (.int (own_len p1))] [(.int (16 : Int32)), (.int p1), (.int (((p1.toUInt32 >>> ((16 : Int32) &&& 31).toUInt32).toInt32).toInt8.toInt32))]))
        refine ogo (fun t k => XS.iushr X1.here hx rfl (hb hby d4_60) rfl k) ?_
        show OwnEnds _ _ _ _ _ _ _ (T1.setTop (mkF m 61 #[.val (.ref a1), .val (.int p1), .val (.int (own_len p1))] [(.int ((p1.toUInt32 >>> ((16 : Int32) &&& 31).toUInt32).toInt32)), (.int (((p1.toUInt32 >>> ((16 : Int32) &&& 31).toUInt32).toInt32).toInt8.toInt32))]))
        refine ogo (fun t k => XS.i2b X1.here hx rfl (hb hby d4_61) rfl k) ?_
        show OwnEnds _ _ _ _ _ _ _ (T1.setTop (mkF m 62 #[.val (.ref a1), .val (.int p1), .val (.int (own_len p1))] [(.int (((p1.toUInt32 >>> ((16 : Int32) &&& 31).toUInt32).toInt32).toInt8.toInt32)), (.int (((p1.toUInt32 >>> ((16 : Int32) &&& 31).toUInt32).toInt32).toInt8.toInt32))]))
        refine ogo (fun t k => XS.icmpYes X1.here hx rfl (pc0 := 62) (pc' := 67) rfl (hb hby d4_62) rfl (teq (rfl : (((p1.toUInt32 >>> ((16 : Int32) &&& 31).toUInt32).toInt32).toInt8.toInt32) = (((p1.toUInt32 >>> ((16 : Int32) &&& 31).toUInt32).toInt32).toInt8.toInt32))).1 (by decide) (by decide) k) ?_
        show OwnEnds _ _ _ _ _ _ _ (T1.setTop (mkF m 67 #[.val (.ref a1), .val (.int p1), .val (.int (own_len p1))] []))
        refine ogo (fun t k => XS.iconst X1.here hx rfl (hb hby d4_67) k) ?_
        show OwnEnds _ _ _ _ _ _ _ (T1.setTop (mkF m 68 #[.val (.ref a1), .val (.int p1), .val (.int (own_len p1))] [(.int (1 : Int32))]))
        refine endZ X1 hx hlk hret rfl (hb hby d4_68) (by decide) (by decide) ?_
        show Q4 Z a1 p1 h0 n0 _ T1.heap _
        rw [e1]
        exact ⟨by simp [hc3, hc5, hc9], N1, rfl⟩
      · refine ogo (fun t k => XS.icmpYes X1.here hx rfl (pc0 := 51) (pc' := 67) rfl (hb hby d4_51) rfl (flt hc9).2.2.2 (by decide) (by decide) k) ?_
        show OwnEnds _ _ _ _ _ _ _ (T1.setTop (mkF m 67 #[.val (.ref a1), .val (.int p1), .val (.int (own_len p1))] []))
        refine ogo (fun t k => XS.iconst X1.here hx rfl (hb hby d4_67) k) ?_
        show OwnEnds _ _ _ _ _ _ _ (T1.setTop (mkF m 68 #[.val (.ref a1), .val (.int p1), .val (.int (own_len p1))] [(.int (1 : Int32))]))
        refine endZ X1 hx hlk hret rfl (hb hby d4_68) (by decide) (by decide) ?_
        show Q4 Z a1 p1 h0 n0 _ T1.heap _
        rw [e1]
        exact ⟨by simp [hc3, hc5, hc9], N1, rfl⟩
  · refine ogo (fun t k => XS.ifYes X1.here hx rfl (pc0 := 18) (pc' := 31) rfl (hb hby d4_18) rfl ((if0 _ _).trans (flt hc3).2.2.2) (by decide) (by decide) k) ?_
    show OwnEnds _ _ _ _ _ _ _ (T1.setTop (mkF m 31 #[.val (.ref a1), .val (.int p1), .val (.int (own_len p1))] []))
    refine ogo (fun t k => XS.iloadN X1.here hx rfl (hb hby d4_31) rfl k) ?_
    show OwnEnds _ _ _ _ _ _ _ (T1.setTop (mkF m 32 #[.val (.ref a1), .val (.int p1), .val (.int (own_len p1))] [(.int (own_len p1))]))
    refine ogo (fun t k => XS.iconst X1.here hx rfl (hb hby d4_32) k) ?_
    show OwnEnds _ _ _ _ _ _ _ (T1.setTop (mkF m 33 #[.val (.ref a1), .val (.int p1), .val (.int (own_len p1))] [(.int (1 : Int32)), (.int (own_len p1))]))
    by_cases hc11 : (1 : Int32) < (own_len p1)
    · refine ogo (fun t k => XS.icmpNo X1.here hx rfl (hb hby d4_33) rfl (tlt hc11).2.2.2 k) ?_
      show OwnEnds _ _ _ _ _ _ _ (T1.setTop (mkF m 36 #[.val (.ref a1), .val (.int p1), .val (.int (own_len p1))] []))
      refine ogo (fun t k => XS.aloadN X1.here hx rfl (hb hby d4_36) rfl rfl k) ?_
      show OwnEnds _ _ _ _ _ _ _ (T1.setTop (mkF m 37 #[.val (.ref a1), .val (.int p1), .val (.int (own_len p1))] [(.ref a1)]))
      refine ogo (fun t k => XS.iconst X1.here hx rfl (hb hby d4_37) k) ?_
      show OwnEnds _ _ _ _ _ _ _ (T1.setTop (mkF m 38 #[.val (.ref a1), .val (.int p1), .val (.int (own_len p1))] [(.int (1 : Int32)), (.ref a1)]))
      obtain ⟨ak12, cl12, Ar12, Aq12, As12, An12, Ah12, Ag12⟩ := id V_1
      refine ogo (fun t k => X1.baloadBytes hx (j := (1 : Int32)) (v := (.int (((p1.toUInt32 >>> ((8 : Int32) &&& 31).toUInt32).toInt32).toInt8.toInt32))) (by rw [e1]; exact Ar12.1) (State.isArrayOf_alike hZ.alike Ar12.2.1) Ar12.2.2 (inb_of As12 ⟨by decide, hc11⟩) (Ah12.at (inb_of As12 ⟨by decide, hc11⟩) rfl) (g := (mkF m 38 #[.val (.ref a1), .val (.int p1), .val (.int (own_len p1))] [(.int (1 : Int32)), (.ref a1)])) rfl rfl (hb hby d4_38) t k) ?_
      show OwnEnds _ _ _ _ _ _ _ (T1.setTop (mkF m 39 #[.val (.ref a1), .val (.int p1), .val (.int (own_len p1))] [(.int (((p1.toUInt32 >>> ((8 : Int32) &&& 31).toUInt32).toInt32).toInt8.toInt32))]))
      refine ogo (fun t k => XS.iloadN X1.here hx rfl (hb hby d4_39) rfl k) ?_
      show OwnEnds _ _ _ _ _ _ _ (T1.setTop (mkF m 40 #[.val (.ref a1), .val (.int p1), .val (.int (own_len p1))] [(.int p1), (.int (((p1.toUInt32 >>> ((8 : Int32) &&& 31).toUInt32).toInt32).toInt8.toInt32))]))
      refine ogo (fun t k => XS.bipush X1.here hx rfl (hb hby d4_40) k) ?_
      show OwnEnds _ _ _ _ _ _ _ (T1.setTop (mkF m 42 #[.val (.ref a1), .val (.int p1), .val (.int (own_len p1))] [(.int (8 : Int32)), (.int p1), (.int (((p1.toUInt32 >>> ((8 : Int32) &&& 31).toUInt32).toInt32).toInt8.toInt32))]))
      refine ogo (fun t k => XS.iushr X1.here hx rfl (hb hby d4_42) rfl k) ?_
      show OwnEnds _ _ _ _ _ _ _ (T1.setTop (mkF m 43 #[.val (.ref a1), .val (.int p1), .val (.int (own_len p1))] [(.int ((p1.toUInt32 >>> ((8 : Int32) &&& 31).toUInt32).toInt32)), (.int (((p1.toUInt32 >>> ((8 : Int32) &&& 31).toUInt32).toInt32).toInt8.toInt32))]))
      refine ogo (fun t k => XS.i2b X1.here hx rfl (hb hby d4_43) rfl k) ?_
      show OwnEnds _ _ _ _ _ _ _ (T1.setTop (mkF m 44 #[.val (.ref a1), .val (.int p1), .val (.int (own_len p1))] [(.int (((p1.toUInt32 >>> ((8 : Int32) &&& 31).toUInt32).toInt32).toInt8.toInt32)), (.int (((p1.toUInt32 >>> ((8 : Int32) &&& 31).toUInt32).toInt32).toInt8.toInt32))]))
      refine ogo (fun t k => XS.icmpYes X1.here hx rfl (pc0 := 44) (pc' := 49) rfl (hb hby d4_44) rfl (teq (rfl : (((p1.toUInt32 >>> ((8 : Int32) &&& 31).toUInt32).toInt32).toInt8.toInt32) = (((p1.toUInt32 >>> ((8 : Int32) &&& 31).toUInt32).toInt32).toInt8.toInt32))).1 (by decide) (by decide) k) ?_
      show OwnEnds _ _ _ _ _ _ _ (T1.setTop (mkF m 49 #[.val (.ref a1), .val (.int p1), .val (.int (own_len p1))] []))
      refine ogo (fun t k => XS.iloadN X1.here hx rfl (hb hby d4_49) rfl k) ?_
      show OwnEnds _ _ _ _ _ _ _ (T1.setTop (mkF m 50 #[.val (.ref a1), .val (.int p1), .val (.int (own_len p1))] [(.int (own_len p1))]))
      refine ogo (fun t k => XS.iconst X1.here hx rfl (hb hby d4_50) k) ?_
      show OwnEnds _ _ _ _ _ _ _ (T1.setTop (mkF m 51 #[.val (.ref a1), .val (.int p1), .val (.int (own_len p1))] [(.int (2 : Int32)), (.int (own_len p1))]))
      by_cases hc13 : (2 : Int32) < (own_len p1)
      · refine ogo (fun t k => XS.icmpNo X1.here hx rfl (hb hby d4_51) rfl (tlt hc13).2.2.2 k) ?_
        show OwnEnds _ _ _ _ _ _ _ (T1.setTop (mkF m 54 #[.val (.ref a1), .val (.int p1), .val (.int (own_len p1))] []))
        refine ogo (fun t k => XS.aloadN X1.here hx rfl (hb hby d4_54) rfl rfl k) ?_
        show OwnEnds _ _ _ _ _ _ _ (T1.setTop (mkF m 55 #[.val (.ref a1), .val (.int p1), .val (.int (own_len p1))] [(.ref a1)]))
        refine ogo (fun t k => XS.iconst X1.here hx rfl (hb hby d4_55) k) ?_
        show OwnEnds _ _ _ _ _ _ _ (T1.setTop (mkF m 56 #[.val (.ref a1), .val (.int p1), .val (.int (own_len p1))] [(.int (2 : Int32)), (.ref a1)]))
        obtain ⟨ak14, cl14, Ar14, Aq14, As14, An14, Ah14, Ag14⟩ := id V_1
        refine ogo (fun t k => X1.baloadBytes hx (j := (2 : Int32)) (v := (.int (((p1.toUInt32 >>> ((16 : Int32) &&& 31).toUInt32).toInt32).toInt8.toInt32))) (by rw [e1]; exact Ar14.1) (State.isArrayOf_alike hZ.alike Ar14.2.1) Ar14.2.2 (inb_of As14 ⟨by decide, hc13⟩) (Ah14.at (inb_of As14 ⟨by decide, hc13⟩) rfl) (g := (mkF m 56 #[.val (.ref a1), .val (.int p1), .val (.int (own_len p1))] [(.int (2 : Int32)), (.ref a1)])) rfl rfl (hb hby d4_56) t k) ?_
        show OwnEnds _ _ _ _ _ _ _ (T1.setTop (mkF m 57 #[.val (.ref a1), .val (.int p1), .val (.int (own_len p1))] [(.int (((p1.toUInt32 >>> ((16 : Int32) &&& 31).toUInt32).toInt32).toInt8.toInt32))]))
        refine ogo (fun t k => XS.iloadN X1.here hx rfl (hb hby d4_57) rfl k) ?_
        show OwnEnds _ _ _ _ _ _ _ (T1.setTop (mkF m 58 #[.val (.ref a1), .val (.int p1), .val (.int (own_len p1))] [(.int p1), (.int (((p1.toUInt32 >>> ((16 : Int32) &&& 31).toUInt32).toInt32).toInt8.toInt32))]))
        refine ogo (fun t k => XS.bipush X1.here hx rfl (hb hby d4_58) k) ?_
        show OwnEnds _ _ _ _ _ _ _ (T1.setTop (mkF m 60 #[.val (.ref a1), .val (.int p1), .val (.int (own_len p1))] [(.int (16 : Int32)), (.int p1), (.int (((p1.toUInt32 >>> ((16 : Int32) &&& 31).toUInt32).toInt32).toInt8.toInt32))]))
        refine ogo (fun t k => XS.iushr X1.here hx rfl (hb hby d4_60) rfl k) ?_
        show OwnEnds _ _ _ _ _ _ _ (T1.setTop (mkF m 61 #[.val (.ref a1), .val (.int p1), .val (.int (own_len p1))] [(.int ((p1.toUInt32 >>> ((16 : Int32) &&& 31).toUInt32).toInt32)), (.int (((p1.toUInt32 >>> ((16 : Int32) &&& 31).toUInt32).toInt32).toInt8.toInt32))]))
        refine ogo (fun t k => XS.i2b X1.here hx rfl (hb hby d4_61) rfl k) ?_
        show OwnEnds _ _ _ _ _ _ _ (T1.setTop (mkF m 62 #[.val (.ref a1), .val (.int p1), .val (.int (own_len p1))] [(.int (((p1.toUInt32 >>> ((16 : Int32) &&& 31).toUInt32).toInt32).toInt8.toInt32)), (.int (((p1.toUInt32 >>> ((16 : Int32) &&& 31).toUInt32).toInt32).toInt8.toInt32))]))
        refine ogo (fun t k => XS.icmpYes X1.here hx rfl (pc0 := 62) (pc' := 67) rfl (hb hby d4_62) rfl (teq (rfl : (((p1.toUInt32 >>> ((16 : Int32) &&& 31).toUInt32).toInt32).toInt8.toInt32) = (((p1.toUInt32 >>> ((16 : Int32) &&& 31).toUInt32).toInt32).toInt8.toInt32))).1 (by decide) (by decide) k) ?_
        show OwnEnds _ _ _ _ _ _ _ (T1.setTop (mkF m 67 #[.val (.ref a1), .val (.int p1), .val (.int (own_len p1))] []))
        refine ogo (fun t k => XS.iconst X1.here hx rfl (hb hby d4_67) k) ?_
        show OwnEnds _ _ _ _ _ _ _ (T1.setTop (mkF m 68 #[.val (.ref a1), .val (.int p1), .val (.int (own_len p1))] [(.int (1 : Int32))]))
        refine endZ X1 hx hlk hret rfl (hb hby d4_68) (by decide) (by decide) ?_
        show Q4 Z a1 p1 h0 n0 _ T1.heap _
        rw [e1]
        exact ⟨by simp [hc3, hc11, hc13], N1, rfl⟩
      · refine ogo (fun t k => XS.icmpYes X1.here hx rfl (pc0 := 51) (pc' := 67) rfl (hb hby d4_51) rfl (flt hc13).2.2.2 (by decide) (by decide) k) ?_
        show OwnEnds _ _ _ _ _ _ _ (T1.setTop (mkF m 67 #[.val (.ref a1), .val (.int p1), .val (.int (own_len p1))] []))
        refine ogo (fun t k => XS.iconst X1.here hx rfl (hb hby d4_67) k) ?_
        show OwnEnds _ _ _ _ _ _ _ (T1.setTop (mkF m 68 #[.val (.ref a1), .val (.int p1), .val (.int (own_len p1))] [(.int (1 : Int32))]))
        refine endZ X1 hx hlk hret rfl (hb hby d4_68) (by decide) (by decide) ?_
        show Q4 Z a1 p1 h0 n0 _ T1.heap _
        rw [e1]
        exact ⟨by simp [hc3, hc11, hc13], N1, rfl⟩
    · refine ogo (fun t k => XS.icmpYes X1.here hx rfl (pc0 := 33) (pc' := 49) rfl (hb hby d4_33) rfl (flt hc11).2.2.2 (by decide) (by decide) k) ?_
      show OwnEnds _ _ _ _ _ _ _ (T1.setTop (mkF m 49 #[.val (.ref a1), .val (.int p1), .val (.int (own_len p1))] []))
      refine ogo (fun t k => XS.iloadN X1.here hx rfl (hb hby d4_49) rfl k) ?_
      show OwnEnds _ _ _ _ _ _ _ (T1.setTop (mkF m 50 #[.val (.ref a1), .val (.int p1), .val (.int (own_len p1))] [(.int (own_len p1))]))
      refine ogo (fun t k => XS.iconst X1.here hx rfl (hb hby d4_50) k) ?_
      show OwnEnds _ _ _ _ _ _ _ (T1.setTop (mkF m 51 #[.val (.ref a1), .val (.int p1), .val (.int (own_len p1))] [(.int (2 : Int32)), (.int (own_len p1))]))
      by_cases hc15 : (2 : Int32) < (own_len p1)
      · refine ogo (fun t k => XS.icmpNo X1.here hx rfl (hb hby d4_51) rfl (tlt hc15).2.2.2 k) ?_
        show OwnEnds _ _ _ _ _ _ _ (T1.setTop (mkF m 54 #[.val (.ref a1), .val (.int p1), .val (.int (own_len p1))] []))
        refine ogo (fun t k => XS.aloadN X1.here hx rfl (hb hby d4_54) rfl rfl k) ?_
        show OwnEnds _ _ _ _ _ _ _ (T1.setTop (mkF m 55 #[.val (.ref a1), .val (.int p1), .val (.int (own_len p1))] [(.ref a1)]))
        refine ogo (fun t k => XS.iconst X1.here hx rfl (hb hby d4_55) k) ?_
        show OwnEnds _ _ _ _ _ _ _ (T1.setTop (mkF m 56 #[.val (.ref a1), .val (.int p1), .val (.int (own_len p1))] [(.int (2 : Int32)), (.ref a1)]))
        obtain ⟨ak16, cl16, Ar16, Aq16, As16, An16, Ah16, Ag16⟩ := id V_1
        refine ogo (fun t k => X1.baloadBytes hx (j := (2 : Int32)) (v := (.int (((p1.toUInt32 >>> ((16 : Int32) &&& 31).toUInt32).toInt32).toInt8.toInt32))) (by rw [e1]; exact Ar16.1) (State.isArrayOf_alike hZ.alike Ar16.2.1) Ar16.2.2 (inb_of As16 ⟨by decide, hc15⟩) (Ah16.at (inb_of As16 ⟨by decide, hc15⟩) rfl) (g := (mkF m 56 #[.val (.ref a1), .val (.int p1), .val (.int (own_len p1))] [(.int (2 : Int32)), (.ref a1)])) rfl rfl (hb hby d4_56) t k) ?_
        show OwnEnds _ _ _ _ _ _ _ (T1.setTop (mkF m 57 #[.val (.ref a1), .val (.int p1), .val (.int (own_len p1))] [(.int (((p1.toUInt32 >>> ((16 : Int32) &&& 31).toUInt32).toInt32).toInt8.toInt32))]))
        refine ogo (fun t k => XS.iloadN X1.here hx rfl (hb hby d4_57) rfl k) ?_
        show OwnEnds _ _ _ _ _ _ _ (T1.setTop (mkF m 58 #[.val (.ref a1), .val (.int p1), .val (.int (own_len p1))] [(.int p1), (.int (((p1.toUInt32 >>> ((16 : Int32) &&& 31).toUInt32).toInt32).toInt8.toInt32))]))
        refine ogo (fun t k => XS.bipush X1.here hx rfl (hb hby d4_58) k) ?_
        show OwnEnds _ _ _ _ _ _ _ (T1.setTop (mkF m 60 #[.val (.ref a1), .val (.int p1), .val (.int (own_len p1))] [(.int (16 : Int32)), (.int p1), (.int (((p1.toUInt32 >>> ((16 : Int32) &&& 31).toUInt32).toInt32).toInt8.toInt32))]))
        refine ogo (fun t k => XS.iushr X1.here hx rfl (hb hby d4_60) rfl k) ?_
        show OwnEnds _ _ _ _ _ _ _ (T1.setTop (mkF m 61 #[.val (.ref a1), .val (.int p1), .val (.int (own_len p1))] [(.int ((p1.toUInt32 >>> ((16 : Int32) &&& 31).toUInt32).toInt32)), (.int (((p1.toUInt32 >>> ((16 : Int32) &&& 31).toUInt32).toInt32).toInt8.toInt32))]))
        refine ogo (fun t k => XS.i2b X1.here hx rfl (hb hby d4_61) rfl k) ?_
        show OwnEnds _ _ _ _ _ _ _ (T1.setTop (mkF m 62 #[.val (.ref a1), .val (.int p1), .val (.int (own_len p1))] [(.int (((p1.toUInt32 >>> ((16 : Int32) &&& 31).toUInt32).toInt32).toInt8.toInt32)), (.int (((p1.toUInt32 >>> ((16 : Int32) &&& 31).toUInt32).toInt32).toInt8.toInt32))]))
        refine ogo (fun t k => XS.icmpYes X1.here hx rfl (pc0 := 62) (pc' := 67) rfl (hb hby d4_62) rfl (teq (rfl : (((p1.toUInt32 >>> ((16 : Int32) &&& 31).toUInt32).toInt32).toInt8.toInt32) = (((p1.toUInt32 >>> ((16 : Int32) &&& 31).toUInt32).toInt32).toInt8.toInt32))).1 (by decide) (by decide) k) ?_
        show OwnEnds _ _ _ _ _ _ _ (T1.setTop (mkF m 67 #[.val (.ref a1), .val (.int p1), .val (.int (own_len p1))] []))
        refine ogo (fun t k => XS.iconst X1.here hx rfl (hb hby d4_67) k) ?_
        show OwnEnds _ _ _ _ _ _ _ (T1.setTop (mkF m 68 #[.val (.ref a1), .val (.int p1), .val (.int (own_len p1))] [(.int (1 : Int32))]))
        refine endZ X1 hx hlk hret rfl (hb hby d4_68) (by decide) (by decide) ?_
        show Q4 Z a1 p1 h0 n0 _ T1.heap _
        rw [e1]
        exact ⟨by simp [hc3, hc11, hc15], N1, rfl⟩
      · refine ogo (fun t k => XS.icmpYes X1.here hx rfl (pc0 := 51) (pc' := 67) rfl (hb hby d4_51) rfl (flt hc15).2.2.2 (by decide) (by decide) k) ?_
        show OwnEnds _ _ _ _ _ _ _ (T1.setTop (mkF m 67 #[.val (.ref a1), .val (.int p1), .val (.int (own_len p1))] []))
        refine ogo (fun t k => XS.iconst X1.here hx rfl (hb hby d4_67) k) ?_
        show OwnEnds _ _ _ _ _ _ _ (T1.setTop (mkF m 68 #[.val (.ref a1), .val (.int p1), .val (.int (own_len p1))] [(.int (1 : Int32))]))
        refine endZ X1 hx hlk hret rfl (hb hby d4_68) (by decide) (by decide) ?_
        show Q4 Z a1 p1 h0 n0 _ T1.heap _
        rw [e1]
        exact ⟨by simp [hc3, hc11, hc15], N1, rfl⟩
theorem d5_0 : decode prog_2_method_1_code 0 = .ok (.aload_n 0, 1) := by decide +kernel
theorem d5_1 : decode prog_2_method_1_code 1 = .ok (.invokespecial 1, 3) := by decide +kernel
theorem d5_4 : decode prog_2_method_1_code 4 = .ok (.aload_n 0, 1) := by decide +kernel
theorem d5_5 : decode prog_2_method_1_code 5 = .ok (.aload_n 1, 1) := by decide +kernel
theorem d5_6 : decode prog_2_method_1_code 6 = .ok (.putfield 7, 3) := by decide +kernel
theorem d5_9 : decode prog_2_method_1_code 9 = .ok (.aload_n 0, 1) := by decide +kernel
theorem d5_10 : decode prog_2_method_1_code 10 = .ok (.lload_n 2, 1) := by decide +kernel
theorem d5_11 : decode prog_2_method_1_code 11 = .ok (.putfield 13, 3) := by decide +kernel
theorem d5_14 : decode prog_2_method_1_code 14 = .ok (.aload_n 0, 1) := by decide +kernel
theorem d5_15 : decode prog_2_method_1_code 15 = .ok (.aload 4, 2) := by decide +kernel
theorem d5_17 : decode prog_2_method_1_code 17 = .ok (.putfield 17, 3) := by decide +kernel
theorem d5_20 : decode prog_2_method_1_code 20 = .ok (.aload_n 0, 1) := by decide +kernel
theorem d5_21 : decode prog_2_method_1_code 21 = .ok (.aload 5, 2) := by decide +kernel
theorem d5_23 : decode prog_2_method_1_code 23 = .ok (.putfield 21, 3) := by decide +kernel
theorem d5_26 : decode prog_2_method_1_code 26 = .ok (.return_, 1) := by decide +kernel
theorem pn_ClaimResult : plainName "com/example/once_guard/onceguard/ClaimResult" = true := by first | (simp [plainName, overriddenIn]; done) | decide +kernel
theorem ef_5 (m : MethodId) (x0 : Addr) (x1 : Addr) (x2 : Int64) (x3 : Addr) (x4 : Addr) : entryFrame m #[(.ref x0), (.ref x1), (.long x2), (.ref x3), (.ref x4)] 6 = mkF m 0 #[.val (.ref x0), .val (.ref x1), .val (.long x2), .second, .val (.ref x3), .val (.ref x4)] [] := by first | (simp [entryFrame, mkF, argsToLocals, Value.category]; done) | rfl
def Q5 (Z : State) (a1 a2 : Addr) (q3 : Int64) (a4 a5 : Addr) (h0 : Heap) (n0 : Nat) (v : Option Value) (h : Heap) (L : List Loc) : Prop := v = none ∧ Fr n0 L ∧ Keep h0 h [a1] ∧ Fld Z h a1 "com/example/once_guard/onceguard/ClaimResult" "state" "Lcom/example/once_guard/onceguard/ClaimResult$State;" (.ref a2) ∧ Fld Z h a1 "com/example/once_guard/onceguard/ClaimResult" "payloadDigest" "[B" (.ref a4) ∧ Fld Z h a1 "com/example/once_guard/onceguard/ClaimResult" "outcome" "[B" (.ref a5)
set_option maxRecDepth 65536 in
set_option maxHeartbeats 40000000 in
theorem rm5 (l : Launch) (Z : State) (a0 : Array Value) (hw : ∀ d ∈ tables_1, d.before a0 Z = true) (ws : List Jvm.Cond) (a1 a2 : Addr) (q3 : Int64) (a4 a5 : Addr) (h0 : Heap) (n0 : Nat) (Z0 : n0 ≤ h0.size) (OLD : Old Z n0 h0) (E_1 : Exa Z h0 a1 "com/example/once_guard/onceguard/ClaimResult") (F_1 : Fld Z h0 a1 "com/example/once_guard/onceguard/ClaimResult" "state" "Lcom/example/once_guard/onceguard/ClaimResult$State;" .null) (F_2 : Fld Z h0 a1 "com/example/once_guard/onceguard/ClaimResult" "fencingNumber" "J" (.long (0 : Int64))) (F_3 : Fld Z h0 a1 "com/example/once_guard/onceguard/ClaimResult" "payloadDigest" "[B" .null) (F_4 : Fld Z h0 a1 "com/example/once_guard/onceguard/ClaimResult" "outcome" "[B" .null) (g1 : n0 ≤ a1) :
    MetFree l (⟨"com/example/once_guard/onceguard/ClaimResult", "<init>", "(Lcom/example/once_guard/onceguard/ClaimResult$State;J[B[B)V"⟩ : MethodName) (head1 (Jvm.Cond.code (⟨"com/example/once_guard/onceguard/ClaimResult", "<init>", "(Lcom/example/once_guard/onceguard/ClaimResult$State;J[B[B)V"⟩ : MethodName) prog_2_method_1_code 6 none :: ws) ({ frames := 1, cells := 0, slots := 0, locals := 12 } : Room)) (fun a U => a = #[(.ref a1), (.ref a2), (.long q3), (.ref a4), (.ref a5)] ∧ Z.Warmed39 U.vm ∧ U.heap = h0) (fun _ _ _ _ _ => True) (fun _ U o U' => ∃ v L, o = .returned v ∧ Q5 Z a1 a2 q3 a4 a5 h0 n0 v U'.heap L ∧ FrameEnd U o U' L ({ frames := 1, cells := 0, slots := 0, locals := 12 } : Room).cells ({ frames := 1, cells := 0, slots := 0, locals := 12 } : Room).slots) := by
  refine MetFree.of_bodySF (plainFor_of_name pn_ClaimResult) hisR ?_
  intro p e s m args below meth c s₁ Bd hml0 hP hK
  obtain ⟨rfl, hZ, hh⟩ := hP
  have hx := Bd.exec
  have hby := Bd.bytes
  have hml : c.maxLocals = 6 := hml0
  have hown : s.vm.findClass "com/example/once_guard/onceguard/ClaimResult" = some m.cls := findClass_of_methodNamed Bd.named
  have hnm := (name_of_methodNamed Bd.named Bd.method).1
  have hlk : meth.locks = false := BodyLoose.notSynchronized Bd
  have hret := Bd.returns
  have X0 : Stand p l e ({ frames := 1, cells := 0, slots := 0, locals := 12 } : Room) s m #[(.ref a1), (.ref a2), (.long q3), (.ref a4), (.ref a5)] below meth c s₁ [] 0 0 := Stand.of_body Bd
  have e0 : s₁.heap = h0 := by rw [← hh, Bd.state]; rfl
  have N0 := Fr.nil n0
  refine ogo (U' := s₁.setTop (mkF m 0 #[.val (.ref a1), .val (.ref a2), .val (.long q3), .second, .val (.ref a4), .val (.ref a5)] [])) (Q := Q5 Z a1 a2 q3 a4 a5 h0 n0) (K := ({ frames := 1, cells := 0, slots := 0, locals := 12 } : Room).cells) (N := ({ frames := 1, cells := 0, slots := 0, locals := 12 } : Room).slots) (fun t k => castTop (ef_5 m a1 a2 q3 a4 a5) k) ?_
  show OwnEnds _ _ _ _ _ _ _ (s₁.setTop (mkF m 0 #[.val (.ref a1), .val (.ref a2), .val (.long q3), .second, .val (.ref a4), .val (.ref a5)] []))
  refine ogo (fun t k => XS.aloadN X0.here hx rfl (hb hby d5_0) rfl rfl k) ?_
  show OwnEnds _ _ _ _ _ _ _ (s₁.setTop (mkF m 1 #[.val (.ref a1), .val (.ref a2), .val (.long q3), .second, .val (.ref a4), .val (.ref a5)] [(.ref a1)]))
  obtain ⟨T1, X1, e1, st1⟩ := initO X0 hx hZ hown (hw _ (List.mem_of_getElem? (i := 41) rfl)) (hw _ (List.mem_of_getElem? (i := 42) rfl)) (hw _ (List.mem_of_getElem? (i := 43) rfl)) e0 (g := (mkF m 1 #[.val (.ref a1), .val (.ref a2), .val (.long q3), .second, .val (.ref a4), .val (.ref a5)] [(.ref a1)])) rfl (by rw [hml]; rfl) rfl (hb hby d5_1) (by decide) (W := 0) (by show 2 * 0 + _ ≤ _; exact Nat.le_of_eq rfl) (by decide)
  refine ogo st1 ?_
  show OwnEnds _ _ _ _ _ _ _ (T1.setTop (mkF m 4 #[.val (.ref a1), .val (.ref a2), .val (.long q3), .second, .val (.ref a4), .val (.ref a5)] []))
  refine ogo (fun t k => XS.aloadN X1.here hx rfl (hb hby d5_4) rfl rfl k) ?_
  show OwnEnds _ _ _ _ _ _ _ (T1.setTop (mkF m 5 #[.val (.ref a1), .val (.ref a2), .val (.long q3), .second, .val (.ref a4), .val (.ref a5)] [(.ref a1)]))
  refine ogo (fun t k => XS.aloadN X1.here hx rfl (hb hby d5_5) rfl rfl k) ?_
  show OwnEnds _ _ _ _ _ _ _ (T1.setTop (mkF m 6 #[.val (.ref a1), .val (.ref a2), .val (.long q3), .second, .val (.ref a4), .val (.ref a5)] [(.ref a2), (.ref a1)]))
  obtain ⟨T2, h2, X2, e2, W2, st2⟩ := putF X1 hx hZ hown (host := "") (Or.inl (hw _ (List.mem_of_getElem? (i := 44) rfl))) Via.refl e1 F_1 E_1 (Or.inr ⟨(hw _ (List.mem_of_getElem? (i := 45) rfl)), rfl, hnm⟩) (hw _ (List.mem_of_getElem? (i := 25) rfl)) (ty := (.object "com/example/once_guard/onceguard/ClaimResult$State")) (by decide) rfl rfl (g := (mkF m 6 #[.val (.ref a1), .val (.ref a2), .val (.long q3), .second, .val (.ref a4), .val (.ref a5)] [(.ref a2), (.ref a1)])) rfl rfl (hb hby d5_6)
  have f3 := E_1.wr W2
  have f4 := F_1.same W2
  have f5 := F_2.other W2 (Or.inr (slot_ne (Or.inr (hw _ (List.mem_of_getElem? (i := 47) rfl))) (Or.inr (hw _ (List.mem_of_getElem? (i := 45) rfl))) (by decide) (t := .long) (t' := (.object "com/example/once_guard/onceguard/ClaimResult$State")) (by decide) (by decide)))
  have f6 := F_3.other W2 (Or.inr (slot_ne (Or.inr (hw _ (List.mem_of_getElem? (i := 49) rfl))) (Or.inr (hw _ (List.mem_of_getElem? (i := 45) rfl))) (by decide) (t := (.array .byte)) (t' := (.object "com/example/once_guard/onceguard/ClaimResult$State")) (by decide) (by decide)))
  have f7 := F_4.other W2 (Or.inr (slot_ne (Or.inr (hw _ (List.mem_of_getElem? (i := 51) rfl))) (Or.inr (hw _ (List.mem_of_getElem? (i := 45) rfl))) (by decide) (t := (.array .byte)) (t' := (.object "com/example/once_guard/onceguard/ClaimResult$State")) (by decide) (by decide)))
  have N8 := Fr.snoc X2 N0 g1
  have OLD8 := OLD.wr W2 g1
  have K8 := (Keep.refl h0 [a1]).wr W2 (Or.inl (List.mem_of_getElem? (i := 0) rfl))
  have Z8 := Nat.le_trans Z0 (Nat.le_of_eq W2.size.symm)
  refine ogo st2 ?_
  show OwnEnds _ _ _ _ _ _ _ (T2.setTop (mkF m 9 #[.val (.ref a1), .val (.ref a2), .val (.long q3), .second, .val (.ref a4), .val (.ref a5)] []))
  refine ogo (fun t k => XS.aloadN X2.here hx rfl (hb hby d5_9) rfl rfl k) ?_
  show OwnEnds _ _ _ _ _ _ _ (T2.setTop (mkF m 10 #[.val (.ref a1), .val (.ref a2), .val (.long q3), .second, .val (.ref a4), .val (.ref a5)] [(.ref a1)]))
  refine ogo (fun t k => XS.lloadN X2.here hx rfl (hb hby d5_10) rfl k) ?_
  show OwnEnds _ _ _ _ _ _ _ (T2.setTop (mkF m 11 #[.val (.ref a1), .val (.ref a2), .val (.long q3), .second, .val (.ref a4), .val (.ref a5)] [(.long q3), (.ref a1)]))
  obtain ⟨T9, h9, X9, e9, W9, st9⟩ := putF X2 hx hZ hown (host := "") (Or.inl (hw _ (List.mem_of_getElem? (i := 46) rfl))) Via.refl e2 f5 f3 (Or.inr ⟨(hw _ (List.mem_of_getElem? (i := 47) rfl)), rfl, hnm⟩) (hw _ (List.mem_of_getElem? (i := 25) rfl)) (ty := .long) (by decide) rfl rfl (g := (mkF m 11 #[.val (.ref a1), .val (.ref a2), .val (.long q3), .second, .val (.ref a4), .val (.ref a5)] [(.long q3), (.ref a1)])) rfl rfl (hb hby d5_11)
  have f10 := f3.wr W9
  have f11 := f4.other W9 (Or.inr (slot_ne (Or.inr (hw _ (List.mem_of_getElem? (i := 45) rfl))) (Or.inr (hw _ (List.mem_of_getElem? (i := 47) rfl))) (by decide) (t := (.object "com/example/once_guard/onceguard/ClaimResult$State")) (t' := .long) (by decide) (by decide)))
  have f12 := f5.same W9
  have f13 := f6.other W9 (Or.inr (slot_ne (Or.inr (hw _ (List.mem_of_getElem? (i := 49) rfl))) (Or.inr (hw _ (List.mem_of_getElem? (i := 47) rfl))) (by decide) (t := (.array .byte)) (t' := .long) (by decide) (by decide)))
  have f14 := f7.other W9 (Or.inr (slot_ne (Or.inr (hw _ (List.mem_of_getElem? (i := 51) rfl))) (Or.inr (hw _ (List.mem_of_getElem? (i := 47) rfl))) (by decide) (t := (.array .byte)) (t' := .long) (by decide) (by decide)))
  have N15 := Fr.snoc X9 N8 g1
  have OLD15 := OLD8.wr W9 g1
  have K15 := K8.wr W9 (Or.inl (List.mem_of_getElem? (i := 0) rfl))
  have Z15 := Nat.le_trans Z8 (Nat.le_of_eq W9.size.symm)
  refine ogo st9 ?_
  show OwnEnds _ _ _ _ _ _ _ (T9.setTop (mkF m 14 #[.val (.ref a1), .val (.ref a2), .val (.long q3), .second, .val (.ref a4), .val (.ref a5)] []))
  refine ogo (fun t k => XS.aloadN X9.here hx rfl (hb hby d5_14) rfl rfl k) ?_
  show OwnEnds _ _ _ _ _ _ _ (T9.setTop (mkF m 15 #[.val (.ref a1), .val (.ref a2), .val (.long q3), .second, .val (.ref a4), .val (.ref a5)] [(.ref a1)]))
  refine ogo (fun t k => XS.aload X9.here hx rfl (hb hby d5_15) rfl rfl k) ?_
  show OwnEnds _ _ _ _ _ _ _ (T9.setTop (mkF m 17 #[.val (.ref a1), .val (.ref a2), .val (.long q3), .second, .val (.ref a4), .val (.ref a5)] [(.ref a4), (.ref a1)]))
  obtain ⟨T16, h16, X16, e16, W16, st16⟩ := putF X9 hx hZ hown (host := "") (Or.inl (hw _ (List.mem_of_getElem? (i := 48) rfl))) Via.refl e9 f13 f10 (Or.inr ⟨(hw _ (List.mem_of_getElem? (i := 49) rfl)), rfl, hnm⟩) (hw _ (List.mem_of_getElem? (i := 25) rfl)) (ty := (.array .byte)) (by decide) rfl rfl (g := (mkF m 17 #[.val (.ref a1), .val (.ref a2), .val (.long q3), .second, .val (.ref a4), .val (.ref a5)] [(.ref a4), (.ref a1)])) rfl rfl (hb hby d5_17)
  have f17 := f10.wr W16
  have f18 := f11.other W16 (Or.inr (slot_ne (Or.inr (hw _ (List.mem_of_getElem? (i := 45) rfl))) (Or.inr (hw _ (List.mem_of_getElem? (i := 49) rfl))) (by decide) (t := (.object "com/example/once_guard/onceguard/ClaimResult$State")) (t' := (.array .byte)) (by decide) (by decide)))
  have f19 := f12.other W16 (Or.inr (slot_ne (Or.inr (hw _ (List.mem_of_getElem? (i := 47) rfl))) (Or.inr (hw _ (List.mem_of_getElem? (i := 49) rfl))) (by decide) (t := .long) (t' := (.array .byte)) (by decide) (by decide)))
  have f20 := f13.same W16
  have f21 := f14.other W16 (Or.inr (slot_ne (Or.inr (hw _ (List.mem_of_getElem? (i := 51) rfl))) (Or.inr (hw _ (List.mem_of_getElem? (i := 49) rfl))) (by decide) (t := (.array .byte)) (t' := (.array .byte)) (by decide) (by decide)))
  have N22 := Fr.snoc X16 N15 g1
  have OLD22 := OLD15.wr W16 g1
  have K22 := K15.wr W16 (Or.inl (List.mem_of_getElem? (i := 0) rfl))
  have Z22 := Nat.le_trans Z15 (Nat.le_of_eq W16.size.symm)
  refine ogo st16 ?_
  show OwnEnds _ _ _ _ _ _ _ (T16.setTop (mkF m 20 #[.val (.ref a1), .val (.ref a2), .val (.long q3), .second, .val (.ref a4), .val (.ref a5)] []))
  refine ogo (fun t k => XS.aloadN X16.here hx rfl (hb hby d5_20) rfl rfl k) ?_
  show OwnEnds _ _ _ _ _ _ _ (T16.setTop (mkF m 21 #[.val (.ref a1), .val (.ref a2), .val (.long q3), .second, .val (.ref a4), .val (.ref a5)] [(.ref a1)]))
  refine ogo (fun t k => XS.aload X16.here hx rfl (hb hby d5_21) rfl rfl k) ?_
  show OwnEnds _ _ _ _ _ _ _ (T16.setTop (mkF m 23 #[.val (.ref a1), .val (.ref a2), .val (.long q3), .second, .val (.ref a4), .val (.ref a5)] [(.ref a5), (.ref a1)]))
  obtain ⟨T23, h23, X23, e23, W23, st23⟩ := putF X16 hx hZ hown (host := "") (Or.inl (hw _ (List.mem_of_getElem? (i := 50) rfl))) Via.refl e16 f21 f17 (Or.inr ⟨(hw _ (List.mem_of_getElem? (i := 51) rfl)), rfl, hnm⟩) (hw _ (List.mem_of_getElem? (i := 25) rfl)) (ty := (.array .byte)) (by decide) rfl rfl (g := (mkF m 23 #[.val (.ref a1), .val (.ref a2), .val (.long q3), .second, .val (.ref a4), .val (.ref a5)] [(.ref a5), (.ref a1)])) rfl rfl (hb hby d5_23)
  have f24 := f17.wr W23
  have f25 := f18.other W23 (Or.inr (slot_ne (Or.inr (hw _ (List.mem_of_getElem? (i := 45) rfl))) (Or.inr (hw _ (List.mem_of_getElem? (i := 51) rfl))) (by decide) (t := (.object "com/example/once_guard/onceguard/ClaimResult$State")) (t' := (.array .byte)) (by decide) (by decide)))
  have f26 := f19.other W23 (Or.inr (slot_ne (Or.inr (hw _ (List.mem_of_getElem? (i := 47) rfl))) (Or.inr (hw _ (List.mem_of_getElem? (i := 51) rfl))) (by decide) (t := .long) (t' := (.array .byte)) (by decide) (by decide)))
  have f27 := f20.other W23 (Or.inr (slot_ne (Or.inr (hw _ (List.mem_of_getElem? (i := 49) rfl))) (Or.inr (hw _ (List.mem_of_getElem? (i := 51) rfl))) (by decide) (t := (.array .byte)) (t' := (.array .byte)) (by decide) (by decide)))
  have f28 := f21.same W23
  have N29 := Fr.snoc X23 N22 g1
  have OLD29 := OLD22.wr W23 g1
  have K29 := K22.wr W23 (Or.inl (List.mem_of_getElem? (i := 0) rfl))
  have Z29 := Nat.le_trans Z22 (Nat.le_of_eq W23.size.symm)
  refine ogo st23 ?_
  show OwnEnds _ _ _ _ _ _ _ (T23.setTop (mkF m 26 #[.val (.ref a1), .val (.ref a2), .val (.long q3), .second, .val (.ref a4), .val (.ref a5)] []))
  refine endV X23 hx hlk hret (hb hby d5_26) (by decide) (by decide) ?_
  show Q5 Z a1 a2 q3 a4 a5 h0 n0 _ T23.heap _
  rw [e23]
  exact ⟨rfl, N29, K29, f25, f27, f28⟩
theorem d6_0 : decode jdk_31_method_11_code 0 = .ok (.aload_n 0, 1) := by decide +kernel
theorem d6_1 : decode jdk_31_method_11_code 1 = .ok (.ifnonnull 12, 3) := by decide +kernel
theorem d6_13 : decode jdk_31_method_11_code 13 = .ok (.aload_n 0, 1) := by decide +kernel
theorem d6_14 : decode jdk_31_method_11_code 14 = .ok (.areturn, 1) := by decide +kernel
theorem pn_Objects : plainName "java/util/Objects" = true := by first | (simp [plainName, overriddenIn]; done) | decide +kernel
theorem ef_6 (m : MethodId) (x0 : Addr) (x1 : Addr) : entryFrame m #[(.ref x0), (.ref x1)] 2 = mkF m 0 #[.val (.ref x0), .val (.ref x1)] [] := by first | (simp [entryFrame, mkF, argsToLocals, Value.category]; done) | rfl
def Q6 (Z : State) (a1 a2 : Addr) (h0 : Heap) (n0 : Nat) (v : Option Value) (h : Heap) (L : List Loc) : Prop := v = some (.ref a1) ∧ Fr n0 L ∧ h = h0
set_option maxRecDepth 65536 in
set_option maxHeartbeats 40000000 in
theorem rm6 (l : Launch) (Z : State) (a0 : Array Value) (hw : ∀ d ∈ tables_1, d.before a0 Z = true) (ws : List Jvm.Cond) (a1 a2 : Addr) (h0 : Heap) (n0 : Nat) (Z0 : n0 ≤ h0.size) :
    MetFree l (⟨"java/util/Objects", "requireNonNull", "(Ljava/lang/Object;Ljava/lang/String;)Ljava/lang/Object;"⟩ : MethodName) (head1 (Jvm.Cond.code (⟨"java/util/Objects", "requireNonNull", "(Ljava/lang/Object;Ljava/lang/String;)Ljava/lang/Object;"⟩ : MethodName) jdk_31_method_11_code 2 (some (.object "java/lang/Object")) :: ws) ({ frames := 0, cells := 0, slots := 0, locals := 0 } : Room)) (fun a U => a = #[(.ref a1), (.ref a2)] ∧ Z.Warmed39 U.vm ∧ U.heap = h0) (fun _ _ _ _ _ => True) (fun _ U o U' => ∃ v L, o = .returned v ∧ Q6 Z a1 a2 h0 n0 v U'.heap L ∧ FrameEnd U o U' L ({ frames := 0, cells := 0, slots := 0, locals := 0 } : Room).cells ({ frames := 0, cells := 0, slots := 0, locals := 0 } : Room).slots) := by
  refine MetFree.of_bodySF (plainFor_of_name pn_Objects) hisR ?_
  intro p e s m args below meth c s₁ Bd hml0 hP hK
  obtain ⟨rfl, hZ, hh⟩ := hP
  have hx := Bd.exec
  have hby := Bd.bytes
  have hml : c.maxLocals = 2 := hml0
  have hown : s.vm.findClass "java/util/Objects" = some m.cls := findClass_of_methodNamed Bd.named
  have hnm := (name_of_methodNamed Bd.named Bd.method).1
  have hlk : meth.locks = false := BodyLoose.notSynchronized Bd
  have hret := Bd.returns
  have X0 : Stand p l e ({ frames := 0, cells := 0, slots := 0, locals := 0 } : Room) s m #[(.ref a1), (.ref a2)] below meth c s₁ [] 0 0 := Stand.of_body Bd
  have e0 : s₁.heap = h0 := by rw [← hh, Bd.state]; rfl
  have N0 := Fr.nil n0
  refine ogo (U' := s₁.setTop (mkF m 0 #[.val (.ref a1), .val (.ref a2)] [])) (Q := Q6 Z a1 a2 h0 n0) (K := ({ frames := 0, cells := 0, slots := 0, locals := 0 } : Room).cells) (N := ({ frames := 0, cells := 0, slots := 0, locals := 0 } : Room).slots) (fun t k => castTop (ef_6 m a1 a2) k) ?_
  show OwnEnds _ _ _ _ _ _ _ (s₁.setTop (mkF m 0 #[.val (.ref a1), .val (.ref a2)] []))
  refine ogo (fun t k => XS.aloadN X0.here hx rfl (hb hby d6_0) rfl rfl k) ?_
  show OwnEnds _ _ _ _ _ _ _ (s₁.setTop (mkF m 1 #[.val (.ref a1), .val (.ref a2)] [(.ref a1)]))
  refine ogo (fun t k => XS.ifnonnullYes X0.here hx rfl (pc0 := 1) (pc' := 13) rfl (hb hby d6_1) rfl (by decide) (by decide) k) ?_
  show OwnEnds _ _ _ _ _ _ _ (s₁.setTop (mkF m 13 #[.val (.ref a1), .val (.ref a2)] []))
  refine ogo (fun t k => XS.aloadN X0.here hx rfl (hb hby d6_13) rfl rfl k) ?_
  show OwnEnds _ _ _ _ _ _ _ (s₁.setTop (mkF m 14 #[.val (.ref a1), .val (.ref a2)] [(.ref a1)]))
  refine endA X0 hx hlk hret rfl rfl (hb hby d6_14) (by decide) (by decide) ?_
  show Q6 Z a1 a2 h0 n0 _ s₁.heap _
  rw [e0]
  exact ⟨by simp [], N0, rfl⟩
theorem d7_0 : decode prog_2_method_5_code 0 = .ok (.aload_n 0, 1) := by decide +kernel
theorem d7_1 : decode prog_2_method_5_code 1 = .ok (.getfield 7, 3) := by decide +kernel
theorem d7_4 : decode prog_2_method_5_code 4 = .ok (.areturn, 1) := by decide +kernel
theorem ef_7 (m : MethodId) (x0 : Addr) : entryFrame m #[(.ref x0)] 1 = mkF m 0 #[.val (.ref x0)] [] := by first | (simp [entryFrame, mkF, argsToLocals, Value.category]; done) | rfl
def Q7 (Z : State) (a1 a2 : Addr) (h0 : Heap) (n0 : Nat) (v : Option Value) (h : Heap) (L : List Loc) : Prop := v = some (.ref a2) ∧ Fr n0 L ∧ h = h0
set_option maxRecDepth 65536 in
set_option maxHeartbeats 40000000 in
theorem rm7 (l : Launch) (Z : State) (a0 : Array Value) (hw : ∀ d ∈ tables_1, d.before a0 Z = true) (ws : List Jvm.Cond) (a1 a2 : Addr) (h0 : Heap) (n0 : Nat) (Z0 : n0 ≤ h0.size) (F_1 : Fld Z h0 a1 "com/example/once_guard/onceguard/ClaimResult" "state" "Lcom/example/once_guard/onceguard/ClaimResult$State;" (.ref a2)) :
    MetFree l (⟨"com/example/once_guard/onceguard/ClaimResult", "state", "()Lcom/example/once_guard/onceguard/ClaimResult$State;"⟩ : MethodName) (head1 (Jvm.Cond.code (⟨"com/example/once_guard/onceguard/ClaimResult", "state", "()Lcom/example/once_guard/onceguard/ClaimResult$State;"⟩ : MethodName) prog_2_method_5_code 1 (some (.object "com/example/once_guard/onceguard/ClaimResult$State")) :: ws) ({ frames := 0, cells := 0, slots := 0, locals := 0 } : Room)) (fun a U => a = #[(.ref a1)] ∧ Z.Warmed39 U.vm ∧ U.heap = h0) (fun _ _ _ _ _ => True) (fun _ U o U' => ∃ v L, o = .returned v ∧ Q7 Z a1 a2 h0 n0 v U'.heap L ∧ FrameEnd U o U' L ({ frames := 0, cells := 0, slots := 0, locals := 0 } : Room).cells ({ frames := 0, cells := 0, slots := 0, locals := 0 } : Room).slots) := by
  refine MetFree.of_bodySF (plainFor_of_name pn_ClaimResult) hisR ?_
  intro p e s m args below meth c s₁ Bd hml0 hP hK
  obtain ⟨rfl, hZ, hh⟩ := hP
  have hx := Bd.exec
  have hby := Bd.bytes
  have hml : c.maxLocals = 1 := hml0
  have hown : s.vm.findClass "com/example/once_guard/onceguard/ClaimResult" = some m.cls := findClass_of_methodNamed Bd.named
  have hnm := (name_of_methodNamed Bd.named Bd.method).1
  have hlk : meth.locks = false := BodyLoose.notSynchronized Bd
  have hret := Bd.returns
  have X0 : Stand p l e ({ frames := 0, cells := 0, slots := 0, locals := 0 } : Room) s m #[(.ref a1)] below meth c s₁ [] 0 0 := Stand.of_body Bd
  have e0 : s₁.heap = h0 := by rw [← hh, Bd.state]; rfl
  have N0 := Fr.nil n0
  refine ogo (U' := s₁.setTop (mkF m 0 #[.val (.ref a1)] [])) (Q := Q7 Z a1 a2 h0 n0) (K := ({ frames := 0, cells := 0, slots := 0, locals := 0 } : Room).cells) (N := ({ frames := 0, cells := 0, slots := 0, locals := 0 } : Room).slots) (fun t k => castTop (ef_7 m a1) k) ?_
  show OwnEnds _ _ _ _ _ _ _ (s₁.setTop (mkF m 0 #[.val (.ref a1)] []))
  refine ogo (fun t k => XS.aloadN X0.here hx rfl (hb hby d7_0) rfl rfl k) ?_
  show OwnEnds _ _ _ _ _ _ _ (s₁.setTop (mkF m 1 #[.val (.ref a1)] [(.ref a1)]))
  obtain ⟨T1, X1, e1, st1⟩ := getF X0 hx hZ hown (host := "") (Or.inl (hw _ (List.mem_of_getElem? (i := 44) rfl))) Via.refl e0 F_1 (g := (mkF m 1 #[.val (.ref a1)] [(.ref a1)])) rfl rfl (hb hby d7_1)
  refine ogo st1 ?_
  show OwnEnds _ _ _ _ _ _ _ (T1.setTop (mkF m 4 #[.val (.ref a1)] [(.ref a2)]))
  refine endA X1 hx hlk hret rfl rfl (hb hby d7_4) (by decide) (by decide) ?_
  show Q7 Z a1 a2 h0 n0 _ T1.heap _
  rw [e1]
  exact ⟨by simp [], N0, rfl⟩
theorem d8_0 : decode prog_2_method_7_code 0 = .ok (.aload_n 0, 1) := by decide +kernel
theorem d8_1 : decode prog_2_method_7_code 1 = .ok (.getfield 7, 3) := by decide +kernel
theorem d8_4 : decode prog_2_method_7_code 4 = .ok (.getstatic 24, 3) := by decide +kernel
theorem d8_7 : decode prog_2_method_7_code 7 = .ok (.if_acmp .ne 13, 3) := by decide +kernel
theorem d8_20 : decode prog_2_method_7_code 20 = .ok (.aload_n 0, 1) := by decide +kernel
theorem d8_21 : decode prog_2_method_7_code 21 = .ok (.getfield 17, 3) := by decide +kernel
theorem d8_24 : decode prog_2_method_7_code 24 = .ok (.invokevirtual 43, 3) := by decide +kernel
theorem d8_27 : decode prog_2_method_7_code 27 = .ok (.checkcast 44, 3) := by decide +kernel
theorem d8_30 : decode prog_2_method_7_code 30 = .ok (.areturn, 1) := by decide +kernel
theorem ef_8 (m : MethodId) (x0 : Addr) : entryFrame m #[(.ref x0)] 1 = mkF m 0 #[.val (.ref x0)] [] := by first | (simp [entryFrame, mkF, argsToLocals, Value.category]; done) | rfl
def Q8 (Z : State) (a1 c1 : Addr) (z1 : Int32) (vs1 : List Value) (w_COMPLETED w_CLAIMED : Addr) (h0 : Heap) (n0 : Nat) (v : Option Value) (h : Heap) (L : List Loc) : Prop := ∃ r : Addr, v = some (.ref r) ∧ h0.size ≤ r ∧ Fr n0 L ∧ Keep h0 h [] ∧ Av Z h r .byte z1 vs1 (.int (0 : Int32)) ∧ Exa Z h r "[B"
set_option maxRecDepth 65536 in
set_option maxHeartbeats 40000000 in
theorem rm8 (l : Launch) (Z : State) (a0 : Array Value) (hw : ∀ d ∈ tables_1, d.before a0 Z = true) (ws : List Jvm.Cond) (a1 c1 : Addr) (z1 : Int32) (vs1 : List Value) (w_COMPLETED w_CLAIMED : Addr) (h0 : Heap) (n0 : Nat) (Z0 : n0 ≤ h0.size) (OLD : Old Z n0 h0) (S_C : Sta Z Z.heap "com/example/once_guard/onceguard/ClaimResult$State" "CLAIMED" "Lcom/example/once_guard/onceguard/ClaimResult$State;" (.ref w_CLAIMED)) (F_1 : Fld Z h0 a1 "com/example/once_guard/onceguard/ClaimResult" "state" "Lcom/example/once_guard/onceguard/ClaimResult$State;" (.ref w_COMPLETED)) (F_2 : Fld Z h0 a1 "com/example/once_guard/onceguard/ClaimResult" "payloadDigest" "[B" (.ref c1)) (V_1 : Av Z h0 c1 .byte z1 vs1 (.int (0 : Int32))) (E_c : Exa Z h0 c1 "[B") (hz : z1.toNatClampNeg ≤ 4) (hne : ¬ (w_COMPLETED = w_CLAIMED)) :
    MetFree l (⟨"com/example/once_guard/onceguard/ClaimResult", "payloadDigest", "()[B"⟩ : MethodName) (head1 (Jvm.Cond.code (⟨"com/example/once_guard/onceguard/ClaimResult", "payloadDigest", "()[B"⟩ : MethodName) prog_2_method_7_code 1 (some (.array .byte)) :: ws) ({ frames := 1, cells := 1, slots := 4, locals := 14 } : Room)) (fun a U => a = #[(.ref a1)] ∧ Z.Warmed39 U.vm ∧ U.heap = h0) (fun _ _ _ _ _ => True) (fun _ U o U' => ∃ v L, o = .returned v ∧ Q8 Z a1 c1 z1 vs1 w_COMPLETED w_CLAIMED h0 n0 v U'.heap L ∧ FrameEnd U o U' L ({ frames := 1, cells := 1, slots := 4, locals := 14 } : Room).cells ({ frames := 1, cells := 1, slots := 4, locals := 14 } : Room).slots) := by
  refine MetFree.of_bodySF (plainFor_of_name pn_ClaimResult) hisR ?_
  intro p e s m args below meth c s₁ Bd hml0 hP hK
  obtain ⟨rfl, hZ, hh⟩ := hP
  have hx := Bd.exec
  have hby := Bd.bytes
  have hml : c.maxLocals = 1 := hml0
  have hown : s.vm.findClass "com/example/once_guard/onceguard/ClaimResult" = some m.cls := findClass_of_methodNamed Bd.named
  have hnm := (name_of_methodNamed Bd.named Bd.method).1
  have hlk : meth.locks = false := BodyLoose.notSynchronized Bd
  have hret := Bd.returns
  have X0 : Stand p l e ({ frames := 1, cells := 1, slots := 4, locals := 14 } : Room) s m #[(.ref a1)] below meth c s₁ [] 0 0 := Stand.of_body Bd
  have e0 : s₁.heap = h0 := by rw [← hh, Bd.state]; rfl
  have N0 := Fr.nil n0
  refine ogo (U' := s₁.setTop (mkF m 0 #[.val (.ref a1)] [])) (Q := Q8 Z a1 c1 z1 vs1 w_COMPLETED w_CLAIMED h0 n0) (K := ({ frames := 1, cells := 1, slots := 4, locals := 14 } : Room).cells) (N := ({ frames := 1, cells := 1, slots := 4, locals := 14 } : Room).slots) (fun t k => castTop (ef_8 m a1) k) ?_
  show OwnEnds _ _ _ _ _ _ _ (s₁.setTop (mkF m 0 #[.val (.ref a1)] []))
  refine ogo (fun t k => XS.aloadN X0.here hx rfl (hb hby d8_0) rfl rfl k) ?_
  show OwnEnds _ _ _ _ _ _ _ (s₁.setTop (mkF m 1 #[.val (.ref a1)] [(.ref a1)]))
  obtain ⟨T1, X1, e1, st1⟩ := getF X0 hx hZ hown (host := "") (Or.inl (hw _ (List.mem_of_getElem? (i := 44) rfl))) Via.refl e0 F_1 (g := (mkF m 1 #[.val (.ref a1)] [(.ref a1)])) rfl rfl (hb hby d8_1)
  refine ogo st1 ?_
  show OwnEnds _ _ _ _ _ _ _ (T1.setTop (mkF m 4 #[.val (.ref a1)] [(.ref w_COMPLETED)]))
  obtain ⟨T2, X2, e2, st2⟩ := getS2 X1 hx hZ hown (host := "") (Or.inl (hw _ (List.mem_of_getElem? (i := 66) rfl))) Via.refl e1 (S_C.ext OLD.2) (g := (mkF m 4 #[.val (.ref a1)] [(.ref w_COMPLETED)])) rfl (hb hby d8_4)
  refine ogo st2 ?_
  show OwnEnds _ _ _ _ _ _ _ (T2.setTop (mkF m 7 #[.val (.ref a1)] [(.ref w_CLAIMED), (.ref w_COMPLETED)]))
  refine ogo (fun t k => Jvm.RoadKit.acmp (g := (mkF m 7 #[.val (.ref a1)] [(.ref w_CLAIMED), (.ref w_COMPLETED)])) X2 hx rfl rfl rfl (pc0 := 7) (pc' := 20) (same := false) rfl (hb hby d8_7) rfl (decide_eq_false fun q => hne (Value.ref.inj q)) (by decide) (by decide) k) ?_
  show OwnEnds _ _ _ _ _ _ _ (T2.setTop (mkF m 20 #[.val (.ref a1)] []))
  refine ogo (fun t k => XS.aloadN X2.here hx rfl (hb hby d8_20) rfl rfl k) ?_
  show OwnEnds _ _ _ _ _ _ _ (T2.setTop (mkF m 21 #[.val (.ref a1)] [(.ref a1)]))
  obtain ⟨T3, X3, e3, st3⟩ := getF X2 hx hZ hown (host := "") (Or.inl (hw _ (List.mem_of_getElem? (i := 48) rfl))) Via.refl e2 F_2 (g := (mkF m 21 #[.val (.ref a1)] [(.ref a1)])) rfl rfl (hb hby d8_21)
  refine ogo st3 ?_
  show OwnEnds _ _ _ _ _ _ _ (T3.setTop (mkF m 24 #[.val (.ref a1)] [(.ref c1)]))
  obtain ⟨kc4, Vc4⟩ := id V_1
  obtain ⟨T4, h4, X4, e4, E4, A4, B4, st4⟩ := cloneH X3 hx hZ hown (hw _ (List.mem_of_getElem? (i := 29) rfl)) (hw _ (List.mem_of_getElem? (i := 30) rfl)) (hw _ (List.mem_of_getElem? (i := 34) rfl)) (hw _ (List.mem_of_getElem? (i := 32) rfl)) (hw _ (List.mem_of_getElem? (i := 33) rfl)) (hw _ (List.mem_of_getElem? (i := 35) rfl)) e3 (Arv.arh Vc4) E_c (g := (mkF m 24 #[.val (.ref a1)] [(.ref c1)])) rfl (by rw [hml]; rfl) rfl (hb hby d8_24) (by decide) (W := 0) (cap := 4) (by show 2 * 0 + _ ≤ _; exact Nat.le_of_eq rfl) (by decide) hz (by decide) (by decide)
  obtain ⟨b4, g4⟩ : ∃ z, z = h0.size := ⟨_, rfl⟩
  rw [← g4] at A4 B4 st4
  have ne_a1_b4 : a1 ≠ b4 := Nat.ne_of_lt (Nat.lt_of_lt_of_le (F_1).lt (Nat.le_of_eq g4.symm))
  have ne_c1_b4 : c1 ≠ b4 := Nat.ne_of_lt (Nat.lt_of_lt_of_le (V_1).lt (Nat.le_of_eq g4.symm))
  have q_b4 : n0 ≤ b4 := Nat.le_trans Z0 (Nat.le_of_eq g4.symm)
  have sz_b4 : h0.size ≤ b4 := Nat.le_trans (Keep.refl h0 []).1 (Nat.le_of_eq g4.symm)
  have f5 := F_1.ext E4
  have f6 := F_2.ext E4
  have f7 := V_1.ext E4
  have f8 := E_c.ext E4
  have OLD9 := OLD.ext E4
  have K9 := (Keep.refl h0 []).ext E4
  have Z9 := Nat.le_trans Z0 E4.1
  have V4 : Arv Z h4 b4 kc4 .byte z1 vs1 (.int (0 : Int32)) := A4
  refine ogo st4 ?_
  show OwnEnds _ _ _ _ _ _ _ (T4.setTop (mkF m 27 #[.val (.ref a1)] [(.ref b4)]))
  obtain ⟨T10, X10, e10, st10⟩ := castY X4 hx hZ hown (hw _ (List.mem_of_getElem? (i := 36) rfl)) e4 (Ins.self B4) (g := (mkF m 27 #[.val (.ref a1)] [(.ref b4)])) rfl rfl (hb hby d8_27)
  refine ogo st10 ?_
  show OwnEnds _ _ _ _ _ _ _ (T10.setTop (mkF m 30 #[.val (.ref a1)] [(.ref b4)]))
  refine endA X10 hx hlk hret rfl rfl (hb hby d8_30) (by decide) (by decide) ?_
  show Q8 Z a1 c1 z1 vs1 w_COMPLETED w_CLAIMED h0 n0 _ T10.heap _
  rw [e10]
  exact ⟨b4, rfl, sz_b4, N0, K9, ⟨_, V4⟩, B4⟩
theorem d9_0 : decode prog_2_method_8_code 0 = .ok (.aload_n 0, 1) := by decide +kernel
theorem d9_1 : decode prog_2_method_8_code 1 = .ok (.getfield 7, 3) := by decide +kernel
theorem d9_4 : decode prog_2_method_8_code 4 = .ok (.getstatic 50, 3) := by decide +kernel
theorem d9_7 : decode prog_2_method_8_code 7 = .ok (.if_acmp .eq 23, 3) := by decide +kernel
theorem d9_30 : decode prog_2_method_8_code 30 = .ok (.aload_n 0, 1) := by decide +kernel
theorem d9_31 : decode prog_2_method_8_code 31 = .ok (.getfield 21, 3) := by decide +kernel
theorem d9_34 : decode prog_2_method_8_code 34 = .ok (.invokevirtual 43, 3) := by decide +kernel
theorem d9_37 : decode prog_2_method_8_code 37 = .ok (.checkcast 44, 3) := by decide +kernel
theorem d9_40 : decode prog_2_method_8_code 40 = .ok (.areturn, 1) := by decide +kernel
theorem ef_9 (m : MethodId) (x0 : Addr) : entryFrame m #[(.ref x0)] 1 = mkF m 0 #[.val (.ref x0)] [] := by first | (simp [entryFrame, mkF, argsToLocals, Value.category]; done) | rfl
def Q9 (Z : State) (a1 c1 : Addr) (z1 : Int32) (vs1 : List Value) (w_COMPLETED : Addr) (h0 : Heap) (n0 : Nat) (v : Option Value) (h : Heap) (L : List Loc) : Prop := ∃ r : Addr, v = some (.ref r) ∧ h0.size ≤ r ∧ Fr n0 L ∧ Keep h0 h [] ∧ Av Z h r .byte z1 vs1 (.int (0 : Int32)) ∧ Exa Z h r "[B"
set_option maxRecDepth 65536 in
set_option maxHeartbeats 40000000 in
theorem rm9 (l : Launch) (Z : State) (a0 : Array Value) (hw : ∀ d ∈ tables_1, d.before a0 Z = true) (ws : List Jvm.Cond) (a1 c1 : Addr) (z1 : Int32) (vs1 : List Value) (w_COMPLETED : Addr) (h0 : Heap) (n0 : Nat) (Z0 : n0 ≤ h0.size) (OLD : Old Z n0 h0) (S_C : Sta Z Z.heap "com/example/once_guard/onceguard/ClaimResult$State" "COMPLETED" "Lcom/example/once_guard/onceguard/ClaimResult$State;" (.ref w_COMPLETED)) (F_1 : Fld Z h0 a1 "com/example/once_guard/onceguard/ClaimResult" "state" "Lcom/example/once_guard/onceguard/ClaimResult$State;" (.ref w_COMPLETED)) (F_2 : Fld Z h0 a1 "com/example/once_guard/onceguard/ClaimResult" "outcome" "[B" (.ref c1)) (V_1 : Av Z h0 c1 .byte z1 vs1 (.int (0 : Int32))) (E_c : Exa Z h0 c1 "[B") (hz : z1.toNatClampNeg ≤ 4) :
    MetFree l (⟨"com/example/once_guard/onceguard/ClaimResult", "outcome", "()[B"⟩ : MethodName) (head1 (Jvm.Cond.code (⟨"com/example/once_guard/onceguard/ClaimResult", "outcome", "()[B"⟩ : MethodName) prog_2_method_8_code 1 (some (.array .byte)) :: ws) ({ frames := 1, cells := 1, slots := 4, locals := 14 } : Room)) (fun a U => a = #[(.ref a1)] ∧ Z.Warmed39 U.vm ∧ U.heap = h0) (fun _ _ _ _ _ => True) (fun _ U o U' => ∃ v L, o = .returned v ∧ Q9 Z a1 c1 z1 vs1 w_COMPLETED h0 n0 v U'.heap L ∧ FrameEnd U o U' L ({ frames := 1, cells := 1, slots := 4, locals := 14 } : Room).cells ({ frames := 1, cells := 1, slots := 4, locals := 14 } : Room).slots) := by
  refine MetFree.of_bodySF (plainFor_of_name pn_ClaimResult) hisR ?_
  intro p e s m args below meth c s₁ Bd hml0 hP hK
  obtain ⟨rfl, hZ, hh⟩ := hP
  have hx := Bd.exec
  have hby := Bd.bytes
  have hml : c.maxLocals = 1 := hml0
  have hown : s.vm.findClass "com/example/once_guard/onceguard/ClaimResult" = some m.cls := findClass_of_methodNamed Bd.named
  have hnm := (name_of_methodNamed Bd.named Bd.method).1
  have hlk : meth.locks = false := BodyLoose.notSynchronized Bd
  have hret := Bd.returns
  have X0 : Stand p l e ({ frames := 1, cells := 1, slots := 4, locals := 14 } : Room) s m #[(.ref a1)] below meth c s₁ [] 0 0 := Stand.of_body Bd
  have e0 : s₁.heap = h0 := by rw [← hh, Bd.state]; rfl
  have N0 := Fr.nil n0
  refine ogo (U' := s₁.setTop (mkF m 0 #[.val (.ref a1)] [])) (Q := Q9 Z a1 c1 z1 vs1 w_COMPLETED h0 n0) (K := ({ frames := 1, cells := 1, slots := 4, locals := 14 } : Room).cells) (N := ({ frames := 1, cells := 1, slots := 4, locals := 14 } : Room).slots) (fun t k => castTop (ef_9 m a1) k) ?_
  show OwnEnds _ _ _ _ _ _ _ (s₁.setTop (mkF m 0 #[.val (.ref a1)] []))
  refine ogo (fun t k => XS.aloadN X0.here hx rfl (hb hby d9_0) rfl rfl k) ?_
  show OwnEnds _ _ _ _ _ _ _ (s₁.setTop (mkF m 1 #[.val (.ref a1)] [(.ref a1)]))
  obtain ⟨T1, X1, e1, st1⟩ := getF X0 hx hZ hown (host := "") (Or.inl (hw _ (List.mem_of_getElem? (i := 44) rfl))) Via.refl e0 F_1 (g := (mkF m 1 #[.val (.ref a1)] [(.ref a1)])) rfl rfl (hb hby d9_1)
  refine ogo st1 ?_
  show OwnEnds _ _ _ _ _ _ _ (T1.setTop (mkF m 4 #[.val (.ref a1)] [(.ref w_COMPLETED)]))
  obtain ⟨T2, X2, e2, st2⟩ := getS2 X1 hx hZ hown (host := "") (Or.inl (hw _ (List.mem_of_getElem? (i := 26) rfl))) Via.refl e1 (S_C.ext OLD.2) (g := (mkF m 4 #[.val (.ref a1)] [(.ref w_COMPLETED)])) rfl (hb hby d9_4)
  refine ogo st2 ?_
  show OwnEnds _ _ _ _ _ _ _ (T2.setTop (mkF m 7 #[.val (.ref a1)] [(.ref w_COMPLETED), (.ref w_COMPLETED)]))
  refine ogo (fun t k => Jvm.RoadKit.acmp (g := (mkF m 7 #[.val (.ref a1)] [(.ref w_COMPLETED), (.ref w_COMPLETED)])) X2 hx rfl rfl rfl (pc0 := 7) (pc' := 30) (same := true) rfl (hb hby d9_7) rfl (decide_eq_true (congrArg Value.ref rfl)) (by decide) (by decide) k) ?_
  show OwnEnds _ _ _ _ _ _ _ (T2.setTop (mkF m 30 #[.val (.ref a1)] []))
  refine ogo (fun t k => XS.aloadN X2.here hx rfl (hb hby d9_30) rfl rfl k) ?_
  show OwnEnds _ _ _ _ _ _ _ (T2.setTop (mkF m 31 #[.val (.ref a1)] [(.ref a1)]))
  obtain ⟨T3, X3, e3, st3⟩ := getF X2 hx hZ hown (host := "") (Or.inl (hw _ (List.mem_of_getElem? (i := 50) rfl))) Via.refl e2 F_2 (g := (mkF m 31 #[.val (.ref a1)] [(.ref a1)])) rfl rfl (hb hby d9_31)
  refine ogo st3 ?_
  show OwnEnds _ _ _ _ _ _ _ (T3.setTop (mkF m 34 #[.val (.ref a1)] [(.ref c1)]))
  obtain ⟨kc4, Vc4⟩ := id V_1
  obtain ⟨T4, h4, X4, e4, E4, A4, B4, st4⟩ := cloneH X3 hx hZ hown (hw _ (List.mem_of_getElem? (i := 29) rfl)) (hw _ (List.mem_of_getElem? (i := 30) rfl)) (hw _ (List.mem_of_getElem? (i := 34) rfl)) (hw _ (List.mem_of_getElem? (i := 32) rfl)) (hw _ (List.mem_of_getElem? (i := 33) rfl)) (hw _ (List.mem_of_getElem? (i := 35) rfl)) e3 (Arv.arh Vc4) E_c (g := (mkF m 34 #[.val (.ref a1)] [(.ref c1)])) rfl (by rw [hml]; rfl) rfl (hb hby d9_34) (by decide) (W := 0) (cap := 4) (by show 2 * 0 + _ ≤ _; exact Nat.le_of_eq rfl) (by decide) hz (by decide) (by decide)
  obtain ⟨b4, g4⟩ : ∃ z, z = h0.size := ⟨_, rfl⟩
  rw [← g4] at A4 B4 st4
  have ne_a1_b4 : a1 ≠ b4 := Nat.ne_of_lt (Nat.lt_of_lt_of_le (F_1).lt (Nat.le_of_eq g4.symm))
  have ne_c1_b4 : c1 ≠ b4 := Nat.ne_of_lt (Nat.lt_of_lt_of_le (V_1).lt (Nat.le_of_eq g4.symm))
  have q_b4 : n0 ≤ b4 := Nat.le_trans Z0 (Nat.le_of_eq g4.symm)
  have sz_b4 : h0.size ≤ b4 := Nat.le_trans (Keep.refl h0 []).1 (Nat.le_of_eq g4.symm)
  have f5 := F_1.ext E4
  have f6 := F_2.ext E4
  have f7 := V_1.ext E4
  have f8 := E_c.ext E4
  have OLD9 := OLD.ext E4
  have K9 := (Keep.refl h0 []).ext E4
  have Z9 := Nat.le_trans Z0 E4.1
  have V4 : Arv Z h4 b4 kc4 .byte z1 vs1 (.int (0 : Int32)) := A4
  refine ogo st4 ?_
  show OwnEnds _ _ _ _ _ _ _ (T4.setTop (mkF m 37 #[.val (.ref a1)] [(.ref b4)]))
  obtain ⟨T10, X10, e10, st10⟩ := castY X4 hx hZ hown (hw _ (List.mem_of_getElem? (i := 36) rfl)) e4 (Ins.self B4) (g := (mkF m 37 #[.val (.ref a1)] [(.ref b4)])) rfl rfl (hb hby d9_37)
  refine ogo st10 ?_
  show OwnEnds _ _ _ _ _ _ _ (T10.setTop (mkF m 40 #[.val (.ref a1)] [(.ref b4)]))
  refine endA X10 hx hlk hret rfl rfl (hb hby d9_40) (by decide) (by decide) ?_
  show Q9 Z a1 c1 z1 vs1 w_COMPLETED h0 n0 _ T10.heap _
  rw [e10]
  exact ⟨b4, rfl, sz_b4, N0, K9, ⟨_, V4⟩, B4⟩
theorem d10_0 : decode prog_2_method_4_code 0 = .ok (.aload_n 0, 1) := by decide +kernel
theorem d10_1 : decode prog_2_method_4_code 1 = .ok (.ldc 32, 2) := by decide +kernel
theorem d10_3 : decode prog_2_method_4_code 3 = .ok (.invokestatic 34, 3) := by decide +kernel
theorem d10_6 : decode prog_2_method_4_code 6 = .ok (.pop, 1) := by decide +kernel
theorem d10_7 : decode prog_2_method_4_code 7 = .ok (.aload_n 1, 1) := by decide +kernel
theorem d10_8 : decode prog_2_method_4_code 8 = .ok (.ldc 48, 2) := by decide +kernel
theorem d10_10 : decode prog_2_method_4_code 10 = .ok (.invokestatic 34, 3) := by decide +kernel
theorem d10_13 : decode prog_2_method_4_code 13 = .ok (.pop, 1) := by decide +kernel
theorem d10_14 : decode prog_2_method_4_code 14 = .ok (.new 8, 3) := by decide +kernel
theorem d10_17 : decode prog_2_method_4_code 17 = .ok (.dup, 1) := by decide +kernel
theorem d10_18 : decode prog_2_method_4_code 18 = .ok (.getstatic 50, 3) := by decide +kernel
theorem d10_21 : decode prog_2_method_4_code 21 = .ok (.lconst 0, 1) := by decide +kernel
theorem d10_22 : decode prog_2_method_4_code 22 = .ok (.aload_n 0, 1) := by decide +kernel
theorem d10_23 : decode prog_2_method_4_code 23 = .ok (.invokevirtual 43, 3) := by decide +kernel
theorem d10_26 : decode prog_2_method_4_code 26 = .ok (.checkcast 44, 3) := by decide +kernel
theorem d10_29 : decode prog_2_method_4_code 29 = .ok (.aload_n 1, 1) := by decide +kernel
theorem d10_30 : decode prog_2_method_4_code 30 = .ok (.invokevirtual 43, 3) := by decide +kernel
theorem d10_33 : decode prog_2_method_4_code 33 = .ok (.checkcast 44, 3) := by decide +kernel
theorem d10_36 : decode prog_2_method_4_code 36 = .ok (.invokespecial 29, 3) := by decide +kernel
theorem d10_39 : decode prog_2_method_4_code 39 = .ok (.areturn, 1) := by decide +kernel
theorem pd__Ljava_lang_Object_Ljava_lang_String__Ljava_lang_Object_ : parseMethodDescriptor "(Ljava/lang/Object;Ljava/lang/String;)Ljava/lang/Object;" = some ⟨[(.object "java/lang/Object"), (.object "java/lang/String")], some (.object "java/lang/Object")⟩ := by decide +kernel
theorem pd_8490cb10 : parseMethodDescriptor "(Lcom/example/once_guard/onceguard/ClaimResult$State;J[B[B)V" = some ⟨[(.object "com/example/once_guard/onceguard/ClaimResult$State"), .long, (.array .byte), (.array .byte)], none⟩ := by decide +kernel
theorem ef_10 (m : MethodId) (x0 : Addr) (x1 : Addr) : entryFrame m #[(.ref x0), (.ref x1)] 2 = mkF m 0 #[.val (.ref x0), .val (.ref x1)] [] := by first | (simp [entryFrame, mkF, argsToLocals, Value.category]; done) | rfl
def Q10 (Z : State) (a1 a2 : Addr) (z1 : Int32) (vs1 : List Value) (z2 : Int32) (vs2 : List Value) (w_COMPLETED : Addr) (h0 : Heap) (n0 : Nat) (v : Option Value) (h : Heap) (L : List Loc) : Prop := ∃ r c d : Addr, v = some (.ref r) ∧ h0.size ≤ r ∧ h0.size ≤ c ∧ h0.size ≤ d ∧ Fr n0 L ∧ Keep h0 h [] ∧ Exa Z h r "com/example/once_guard/onceguard/ClaimResult" ∧ Fld Z h r "com/example/once_guard/onceguard/ClaimResult" "state" "Lcom/example/once_guard/onceguard/ClaimResult$State;" (.ref w_COMPLETED) ∧ Fld Z h r "com/example/once_guard/onceguard/ClaimResult" "payloadDigest" "[B" (.ref c) ∧ Fld Z h r "com/example/once_guard/onceguard/ClaimResult" "outcome" "[B" (.ref d) ∧ Av Z h c .byte z1 vs1 (.int (0 : Int32)) ∧ Av Z h d .byte z2 vs2 (.int (0 : Int32)) ∧ Exa Z h c "[B" ∧ Exa Z h d "[B"
set_option maxRecDepth 65536 in
set_option maxHeartbeats 40000000 in
theorem rm10 (l : Launch) (Z : State) (a0 : Array Value) (hw : ∀ d ∈ tables_1, d.before a0 Z = true) (ws : List Jvm.Cond) (a1 a2 : Addr) (z1 : Int32) (vs1 : List Value) (z2 : Int32) (vs2 : List Value) (w_COMPLETED : Addr) (h0 : Heap) (n0 : Nat) (Z0 : n0 ≤ h0.size) (OLD : Old Z n0 h0) (S_O : Sta Z Z.heap "com/example/once_guard/onceguard/ClaimResult$State" "COMPLETED" "Lcom/example/once_guard/onceguard/ClaimResult$State;" (.ref w_COMPLETED)) (V_1 : Av Z h0 a1 .byte z1 vs1 (.int (0 : Int32))) (V_2 : Av Z h0 a2 .byte z2 vs2 (.int (0 : Int32))) (E_1 : Exa Z h0 a1 "[B") (E_2 : Exa Z h0 a2 "[B") (hz1 : z1.toNatClampNeg ≤ 4) (hz2 : z2.toNatClampNeg ≤ 4) :
    MetFree l (⟨"com/example/once_guard/onceguard/ClaimResult", "completed", "([B[B)Lcom/example/once_guard/onceguard/ClaimResult;"⟩ : MethodName) (head1 (Jvm.Cond.code (⟨"com/example/once_guard/onceguard/ClaimResult", "completed", "([B[B)Lcom/example/once_guard/onceguard/ClaimResult;"⟩ : MethodName) prog_2_method_4_code 2 (some (.object "com/example/once_guard/onceguard/ClaimResult")) :: ws) ({ frames := 2, cells := 7, slots := 236, locals := 30 } : Room)) (fun a U => a = #[(.ref a1), (.ref a2)] ∧ Z.Warmed39 U.vm ∧ U.heap = h0) (fun _ _ _ _ _ => True) (fun _ U o U' => ∃ v L, o = .returned v ∧ Q10 Z a1 a2 z1 vs1 z2 vs2 w_COMPLETED h0 n0 v U'.heap L ∧ ReturnedEndW U o U' L ({ frames := 2, cells := 7, slots := 236, locals := 30 } : Room).cells ({ frames := 2, cells := 7, slots := 236, locals := 30 } : Room).slots) := by
  refine MetFree.of_bodySF (plainFor_of_name pn_ClaimResult) hisR ?_
  intro p e s m args below meth c s₁ Bd hml0 hP hK
  obtain ⟨rfl, hZ, hh⟩ := hP
  have hx := Bd.exec
  have hby := Bd.bytes
  have hml : c.maxLocals = 2 := hml0
  have hown : s.vm.findClass "com/example/once_guard/onceguard/ClaimResult" = some m.cls := findClass_of_methodNamed Bd.named
  have hnm := (name_of_methodNamed Bd.named Bd.method).1
  have hlk : meth.locks = false := BodyLoose.notSynchronized Bd
  have hret := Bd.returns
  have X0 : Stand p l e ({ frames := 2, cells := 7, slots := 236, locals := 30 } : Room) s m #[(.ref a1), (.ref a2)] below meth c s₁ [] 0 0 := Stand.of_body Bd
  have e0 : s₁.heap = h0 := by rw [← hh, Bd.state]; rfl
  have N0 := Fr.nil n0
  have X0 : Stand p l e ({ frames := 2, cells := 7, slots := 236, locals := 30 } : Room) (s.setVm s.vm) m #[(.ref a1), (.ref a2)] below meth c s₁ [] 0 0 := X0
  have hZ : Z.Warmed39 (s.setVm s.vm).vm := hZ
  have hown : (s.setVm s.vm).vm.findClass "com/example/once_guard/onceguard/ClaimResult" = some m.cls := hown
  have hS0 : s.Since s.vm 0 := own_since0 s
  refine ogoW (U' := s₁.setTop (mkF m 0 #[.val (.ref a1), .val (.ref a2)] [])) (Q := Q10 Z a1 a2 z1 vs1 z2 vs2 w_COMPLETED h0 n0) (K := ({ frames := 2, cells := 7, slots := 236, locals := 30 } : Room).cells) (N := ({ frames := 2, cells := 7, slots := 236, locals := 30 } : Room).slots) (fun t k => castTop (ef_10 m a1 a2) k) ?_
  show OwnEndsW _ _ _ _ _ _ _ (s₁.setTop (mkF m 0 #[.val (.ref a1), .val (.ref a2)] []))
  refine ogoW (fun t k => XS.aloadN X0.here hx rfl (hb hby d10_0) rfl rfl k) ?_
  show OwnEndsW _ _ _ _ _ _ _ (s₁.setTop (mkF m 1 #[.val (.ref a1), .val (.ref a2)] [(.ref a1)]))
  obtain ⟨sa1, T1, h1, ks1, X1, e1, E1, hS1, hk1, hZ, hown, st1⟩ := ldcS X0 hx hZ hown (hw _ (List.mem_of_getElem? (i := 12) rfl)) (own_str hw) e0 hS0 (Nat.zero_le _) (g := (mkF m 1 #[.val (.ref a1), .val (.ref a2)] [(.ref a1)])) rfl (hb hby d10_1) (n := 120) (by decide) (by decide) (by decide) (by decide)
  have f2 := V_1.ext E1
  have f3 := V_2.ext E1
  have f4 := E_1.ext E1
  have f5 := E_2.ext E1
  have OLD6 := OLD.ext E1
  have K6 := (Keep.refl h0 []).ext E1
  have Z6 := Nat.le_trans Z0 E1.1
  refine ogoW st1 ?_
  show OwnEndsW _ _ _ _ _ _ _ (T1.setTop (mkF m 3 #[.val (.ref a1), .val (.ref a2)] [(.ref sa1), (.ref a1)]))
  obtain ⟨v7, _, ⟨T7, L7, k7, n7⟩, -, X7, ⟨Lc7, hQ7, l7, y7, z7⟩, st7⟩ := Jvm.LawKit.callS X1 hx (y := (⟨"java/util/Objects", "requireNonNull", "(Ljava/lang/Object;Ljava/lang/String;)Ljava/lang/Object;"⟩ : MethodName)) hown (mvT hZ (hw _ (List.mem_of_getElem? (i := 19) rfl))) (mvT hZ (hw _ (List.mem_of_getElem? (i := 20) rfl))) (mvT hZ (hw _ (List.mem_of_getElem? (i := 21) rfl))) (mvT hZ (hw _ (List.mem_of_getElem? (i := 22) rfl))) (by decide) (backOf (W := 0) (rm6 l Z a0 hw [] a1 sa1 h1 n0 Z6 ) hZ (hw _ (List.mem_of_getElem? (i := 22) rfl)) (hw _ (List.mem_of_getElem? (i := 21) rfl)) (by decide) (by decide)) (g := (mkF m 3 #[.val (.ref a1), .val (.ref a2)] [(.ref sa1), (.ref a1)])) rfl (by rw [hml]; rfl) (argsL := [(.ref a1), (.ref sa1)]) (rest := []) (lenOf pd__Ljava_lang_Object_Ljava_lang_String__Ljava_lang_Object_ rfl) rfl (by show 2 * 0 + _ ≤ _; exact Nat.le_of_eq rfl) (hb hby d10_3) (fun _ _ => ⟨rfl, e1, (by decide : 2 + 0 ≤ _), (by decide : 124 + 0 ≤ _)⟩)
  dsimp only [Pt.U, Pt.locs, Pt.cells, Pt.slots] at X7 l7 y7 z7 st7 hQ7
  subst l7 y7 z7
  obtain ⟨rfl, N7q, e7⟩ := hQ7
  have N7 := Fr.app N0 N7q
  refine ogoW (fun t k => st7 t k) ?_
  show OwnEndsW _ _ _ _ _ _ _ (T7.setTop (mkF m 6 #[.val (.ref a1), .val (.ref a2)] [(.ref a1)]))
  refine ogoW (fun t k => XS.pop X7.here hx rfl (hb hby d10_6) rfl rfl k) ?_
  show OwnEndsW _ _ _ _ _ _ _ (T7.setTop (mkF m 7 #[.val (.ref a1), .val (.ref a2)] []))
  refine ogoW (fun t k => XS.aloadN X7.here hx rfl (hb hby d10_7) rfl rfl k) ?_
  show OwnEndsW _ _ _ _ _ _ _ (T7.setTop (mkF m 8 #[.val (.ref a1), .val (.ref a2)] [(.ref a2)]))
  obtain ⟨sa8, T8, h8, ks8, X8, e8, E8, hS8, hk8, hZ, hown, st8⟩ := ldcS X7 hx hZ hown (hw _ (List.mem_of_getElem? (i := 23) rfl)) (own_str hw) e7 hS1 hk1 (g := (mkF m 8 #[.val (.ref a1), .val (.ref a2)] [(.ref a2)])) rfl (hb hby d10_8) (n := 96) (by decide) (by decide) (by decide) (by decide)
  have f9 := f2.ext E8
  have f10 := f3.ext E8
  have f11 := f4.ext E8
  have f12 := f5.ext E8
  have OLD13 := OLD6.ext E8
  have K13 := K6.ext E8
  have Z13 := Nat.le_trans Z6 E8.1
  refine ogoW st8 ?_
  show OwnEndsW _ _ _ _ _ _ _ (T8.setTop (mkF m 10 #[.val (.ref a1), .val (.ref a2)] [(.ref sa8), (.ref a2)]))
  obtain ⟨v14, _, ⟨T14, L14, k14, n14⟩, -, X14, ⟨Lc14, hQ14, l14, y14, z14⟩, st14⟩ := Jvm.LawKit.callS X8 hx (y := (⟨"java/util/Objects", "requireNonNull", "(Ljava/lang/Object;Ljava/lang/String;)Ljava/lang/Object;"⟩ : MethodName)) hown (mvT hZ (hw _ (List.mem_of_getElem? (i := 19) rfl))) (mvT hZ (hw _ (List.mem_of_getElem? (i := 20) rfl))) (mvT hZ (hw _ (List.mem_of_getElem? (i := 21) rfl))) (mvT hZ (hw _ (List.mem_of_getElem? (i := 22) rfl))) (by decide) (backOf (W := 0) (rm6 l Z a0 hw [] a2 sa8 h8 n0 Z13 ) hZ (hw _ (List.mem_of_getElem? (i := 22) rfl)) (hw _ (List.mem_of_getElem? (i := 21) rfl)) (by decide) (by decide)) (g := (mkF m 10 #[.val (.ref a1), .val (.ref a2)] [(.ref sa8), (.ref a2)])) rfl (by rw [hml]; rfl) (argsL := [(.ref a2), (.ref sa8)]) (rest := []) (lenOf pd__Ljava_lang_Object_Ljava_lang_String__Ljava_lang_Object_ rfl) rfl (by show 2 * 0 + _ ≤ _; exact Nat.le_of_eq rfl) (hb hby d10_10) (fun _ _ => ⟨rfl, e8, (by decide : 4 + 0 ≤ _), (by decide : 224 + 0 ≤ _)⟩)
  dsimp only [Pt.U, Pt.locs, Pt.cells, Pt.slots] at X14 l14 y14 z14 st14 hQ14
  subst l14 y14 z14
  obtain ⟨rfl, N14q, e14⟩ := hQ14
  have N14 := Fr.app N7 N14q
  refine ogoW (fun t k => st14 t k) ?_
  show OwnEndsW _ _ _ _ _ _ _ (T14.setTop (mkF m 13 #[.val (.ref a1), .val (.ref a2)] [(.ref a2)]))
  refine ogoW (fun t k => XS.pop X14.here hx rfl (hb hby d10_13) rfl rfl k) ?_
  show OwnEndsW _ _ _ _ _ _ _ (T14.setTop (mkF m 14 #[.val (.ref a1), .val (.ref a2)] []))
  obtain ⟨T15, h15, X15, e15, E15, A15, D15, -, st15⟩ := newO X14 hx hZ hown (hw _ (List.mem_of_getElem? (i := 24) rfl)) (hw _ (List.mem_of_getElem? (i := 25) rfl)) (hw _ (List.mem_of_getElem? (i := 10) rfl)) e14 (g := (mkF m 14 #[.val (.ref a1), .val (.ref a2)] [])) rfl (hb hby d10_14) (by decide) (by decide)
  obtain ⟨b15, g15⟩ : ∃ z, z = h8.size := ⟨_, rfl⟩
  rw [← g15] at A15 D15 st15
  have ne_a1_b15 : a1 ≠ b15 := Nat.ne_of_lt (Nat.lt_of_lt_of_le (f9).lt (Nat.le_of_eq g15.symm))
  have ne_a2_b15 : a2 ≠ b15 := Nat.ne_of_lt (Nat.lt_of_lt_of_le (f10).lt (Nat.le_of_eq g15.symm))
  have q_b15 : n0 ≤ b15 := Nat.le_trans Z13 (Nat.le_of_eq g15.symm)
  have sz_b15 : h0.size ≤ b15 := Nat.le_trans K13.1 (Nat.le_of_eq g15.symm)
  have f16 := f9.ext E15
  have f17 := f10.ext E15
  have f18 := f11.ext E15
  have f19 := f12.ext E15
  have OLD20 := OLD13.ext E15
  have K20 := K13.ext E15
  have Z20 := Nat.le_trans Z13 E15.1
  have hk21 := Nat.le_trans hk8 E15.1
  have f22 : Fld Z h15 b15 "com/example/once_guard/onceguard/ClaimResult" "state" "Lcom/example/once_guard/onceguard/ClaimResult$State;" .null := D15 (Or.inr (hw _ (List.mem_of_getElem? (i := 45) rfl))) (ty := (.object "com/example/once_guard/onceguard/ClaimResult$State")) (by decide)
  have f23 : Fld Z h15 b15 "com/example/once_guard/onceguard/ClaimResult" "fencingNumber" "J" (.long (0 : Int64)) := D15 (Or.inr (hw _ (List.mem_of_getElem? (i := 47) rfl))) (ty := .long) (by decide)
  have f24 : Fld Z h15 b15 "com/example/once_guard/onceguard/ClaimResult" "payloadDigest" "[B" .null := D15 (Or.inr (hw _ (List.mem_of_getElem? (i := 49) rfl))) (ty := (.array .byte)) (by decide)
  have f25 : Fld Z h15 b15 "com/example/once_guard/onceguard/ClaimResult" "outcome" "[B" .null := D15 (Or.inr (hw _ (List.mem_of_getElem? (i := 51) rfl))) (ty := (.array .byte)) (by decide)
  refine ogoW st15 ?_
  show OwnEndsW _ _ _ _ _ _ _ (T15.setTop (mkF m 17 #[.val (.ref a1), .val (.ref a2)] [(.ref b15)]))
  refine ogoW (fun t k => XS.dup X15.here hx rfl (hb hby d10_17) rfl rfl k) ?_
  show OwnEndsW _ _ _ _ _ _ _ (T15.setTop (mkF m 18 #[.val (.ref a1), .val (.ref a2)] [(.ref b15), (.ref b15)]))
  obtain ⟨T26, X26, e26, st26⟩ := getS2 X15 hx hZ hown (host := "") (Or.inl (hw _ (List.mem_of_getElem? (i := 26) rfl))) Via.refl e15 (S_O.ext OLD20.2) (g := (mkF m 18 #[.val (.ref a1), .val (.ref a2)] [(.ref b15), (.ref b15)])) rfl (hb hby d10_18)
  refine ogoW st26 ?_
  show OwnEndsW _ _ _ _ _ _ _ (T26.setTop (mkF m 21 #[.val (.ref a1), .val (.ref a2)] [(.ref w_COMPLETED), (.ref b15), (.ref b15)]))
  refine ogoW (fun t k => XS.lconst X26.here hx rfl (hb hby d10_21) k) ?_
  show OwnEndsW _ _ _ _ _ _ _ (T26.setTop (mkF m 22 #[.val (.ref a1), .val (.ref a2)] [(.long (0 : Int64)), (.ref w_COMPLETED), (.ref b15), (.ref b15)]))
  refine ogoW (fun t k => XS.aloadN X26.here hx rfl (hb hby d10_22) rfl rfl k) ?_
  show OwnEndsW _ _ _ _ _ _ _ (T26.setTop (mkF m 23 #[.val (.ref a1), .val (.ref a2)] [(.ref a1), (.long (0 : Int64)), (.ref w_COMPLETED), (.ref b15), (.ref b15)]))
  obtain ⟨kc27, Vc27⟩ := id f16
  obtain ⟨T27, h27, X27, e27, E27, A27, B27, st27⟩ := cloneH X26 hx hZ hown (hw _ (List.mem_of_getElem? (i := 29) rfl)) (hw _ (List.mem_of_getElem? (i := 30) rfl)) (hw _ (List.mem_of_getElem? (i := 34) rfl)) (hw _ (List.mem_of_getElem? (i := 32) rfl)) (hw _ (List.mem_of_getElem? (i := 33) rfl)) (hw _ (List.mem_of_getElem? (i := 35) rfl)) e26 (Arv.arh Vc27) f18 (g := (mkF m 23 #[.val (.ref a1), .val (.ref a2)] [(.ref a1), (.long (0 : Int64)), (.ref w_COMPLETED), (.ref b15), (.ref b15)])) rfl (by rw [hml]; rfl) rfl (hb hby d10_23) (by decide) (W := 5) (cap := 4) (by show 2 * 0 + _ ≤ _; exact Nat.le_of_eq rfl) (by decide) hz1 (by decide) (by decide)
  obtain ⟨b27, g27⟩ : ∃ z, z = h15.size := ⟨_, rfl⟩
  rw [← g27] at A27 B27 st27
  have ne_a1_b27 : a1 ≠ b27 := Nat.ne_of_lt (Nat.lt_of_lt_of_le (f16).lt (Nat.le_of_eq g27.symm))
  have ne_a2_b27 : a2 ≠ b27 := Nat.ne_of_lt (Nat.lt_of_lt_of_le (f17).lt (Nat.le_of_eq g27.symm))
  have ne_b15_b27 : b15 ≠ b27 := Nat.ne_of_lt (Nat.lt_of_lt_of_le (A15).lt (Nat.le_of_eq g27.symm))
  have q_b27 : n0 ≤ b27 := Nat.le_trans Z20 (Nat.le_of_eq g27.symm)
  have sz_b27 : h0.size ≤ b27 := Nat.le_trans K20.1 (Nat.le_of_eq g27.symm)
  have f28 := f16.ext E27
  have f29 := f17.ext E27
  have f30 := f18.ext E27
  have f31 := f19.ext E27
  have f32 := A15.ext E27
  have f33 := f22.ext E27
  have f34 := f23.ext E27
  have f35 := f24.ext E27
  have f36 := f25.ext E27
  have OLD37 := OLD20.ext E27
  have K37 := K20.ext E27
  have Z37 := Nat.le_trans Z20 E27.1
  have hk38 := Nat.le_trans hk21 E27.1
  have V27 : Arv Z h27 b27 kc27 .byte z1 vs1 (.int (0 : Int32)) := A27
  refine ogoW st27 ?_
  show OwnEndsW _ _ _ _ _ _ _ (T27.setTop (mkF m 26 #[.val (.ref a1), .val (.ref a2)] [(.ref b27), (.long (0 : Int64)), (.ref w_COMPLETED), (.ref b15), (.ref b15)]))
  obtain ⟨T39, X39, e39, st39⟩ := castY X27 hx hZ hown (hw _ (List.mem_of_getElem? (i := 36) rfl)) e27 (Ins.self B27) (g := (mkF m 26 #[.val (.ref a1), .val (.ref a2)] [(.ref b27), (.long (0 : Int64)), (.ref w_COMPLETED), (.ref b15), (.ref b15)])) rfl rfl (hb hby d10_26)
  refine ogoW st39 ?_
  show OwnEndsW _ _ _ _ _ _ _ (T39.setTop (mkF m 29 #[.val (.ref a1), .val (.ref a2)] [(.ref b27), (.long (0 : Int64)), (.ref w_COMPLETED), (.ref b15), (.ref b15)]))
  refine ogoW (fun t k => XS.aloadN X39.here hx rfl (hb hby d10_29) rfl rfl k) ?_
  show OwnEndsW _ _ _ _ _ _ _ (T39.setTop (mkF m 30 #[.val (.ref a1), .val (.ref a2)] [(.ref a2), (.ref b27), (.long (0 : Int64)), (.ref w_COMPLETED), (.ref b15), (.ref b15)]))
  obtain ⟨kc40, Vc40⟩ := id f29
  obtain ⟨T40, h40, X40, e40, E40, A40, B40, st40⟩ := cloneH X39 hx hZ hown (hw _ (List.mem_of_getElem? (i := 29) rfl)) (hw _ (List.mem_of_getElem? (i := 30) rfl)) (hw _ (List.mem_of_getElem? (i := 34) rfl)) (hw _ (List.mem_of_getElem? (i := 32) rfl)) (hw _ (List.mem_of_getElem? (i := 33) rfl)) (hw _ (List.mem_of_getElem? (i := 35) rfl)) e39 (Arv.arh Vc40) f31 (g := (mkF m 30 #[.val (.ref a1), .val (.ref a2)] [(.ref a2), (.ref b27), (.long (0 : Int64)), (.ref w_COMPLETED), (.ref b15), (.ref b15)])) rfl (by rw [hml]; rfl) rfl (hb hby d10_30) (by decide) (W := 6) (cap := 4) (by show 2 * 0 + _ ≤ _; exact Nat.le_of_eq rfl) (by decide) hz2 (by decide) (by decide)
  obtain ⟨b40, g40⟩ : ∃ z, z = h27.size := ⟨_, rfl⟩
  rw [← g40] at A40 B40 st40
  have ne_a1_b40 : a1 ≠ b40 := Nat.ne_of_lt (Nat.lt_of_lt_of_le (f28).lt (Nat.le_of_eq g40.symm))
  have ne_a2_b40 : a2 ≠ b40 := Nat.ne_of_lt (Nat.lt_of_lt_of_le (f29).lt (Nat.le_of_eq g40.symm))
  have ne_b15_b40 : b15 ≠ b40 := Nat.ne_of_lt (Nat.lt_of_lt_of_le (f32).lt (Nat.le_of_eq g40.symm))
  have ne_b27_b40 : b27 ≠ b40 := Nat.ne_of_lt (Nat.lt_of_lt_of_le (V27).lt (Nat.le_of_eq g40.symm))
  have q_b40 : n0 ≤ b40 := Nat.le_trans Z37 (Nat.le_of_eq g40.symm)
  have sz_b40 : h0.size ≤ b40 := Nat.le_trans K37.1 (Nat.le_of_eq g40.symm)
  have f41 := f28.ext E40
  have f42 := f29.ext E40
  have f43 := f30.ext E40
  have f44 := f31.ext E40
  have f45 := f32.ext E40
  have f46 := f33.ext E40
  have f47 := f34.ext E40
  have f48 := f35.ext E40
  have f49 := f36.ext E40
  have f50 := V27.ext E40
  have f51 := B27.ext E40
  have OLD52 := OLD37.ext E40
  have K52 := K37.ext E40
  have Z52 := Nat.le_trans Z37 E40.1
  have hk53 := Nat.le_trans hk38 E40.1
  have V40 : Arv Z h40 b40 kc40 .byte z2 vs2 (.int (0 : Int32)) := A40
  refine ogoW st40 ?_
  show OwnEndsW _ _ _ _ _ _ _ (T40.setTop (mkF m 33 #[.val (.ref a1), .val (.ref a2)] [(.ref b40), (.ref b27), (.long (0 : Int64)), (.ref w_COMPLETED), (.ref b15), (.ref b15)]))
  obtain ⟨T54, X54, e54, st54⟩ := castY X40 hx hZ hown (hw _ (List.mem_of_getElem? (i := 36) rfl)) e40 (Ins.self B40) (g := (mkF m 33 #[.val (.ref a1), .val (.ref a2)] [(.ref b40), (.ref b27), (.long (0 : Int64)), (.ref w_COMPLETED), (.ref b15), (.ref b15)])) rfl rfl (hb hby d10_33)
  refine ogoW st54 ?_
  show OwnEndsW _ _ _ _ _ _ _ (T54.setTop (mkF m 36 #[.val (.ref a1), .val (.ref a2)] [(.ref b40), (.ref b27), (.long (0 : Int64)), (.ref w_COMPLETED), (.ref b15), (.ref b15)]))
  obtain ⟨v55, _, ⟨T55, L55, k55, n55⟩, -, X55, ⟨Lc55, hQ55, l55, y55, z55⟩, st55⟩ := X54.specialBack hx (y := (⟨"com/example/once_guard/onceguard/ClaimResult", "<init>", "(Lcom/example/once_guard/onceguard/ClaimResult$State;J[B[B)V"⟩ : MethodName)) rfl hown (mvT hZ (hw _ (List.mem_of_getElem? (i := 38) rfl))) (mvT hZ (hw _ (List.mem_of_getElem? (i := 39) rfl))) (mvT hZ (hw _ (List.mem_of_getElem? (i := 40) rfl))) (by decide) (backOf (W := 1) (rm5 l Z a0 hw [] b15 w_COMPLETED (0 : Int64) b27 b40 h40 n0 Z52 OLD52 f45 f46 f47 f48 f49 q_b15) hZ (hw _ (List.mem_of_getElem? (i := 40) rfl)) (hw _ (List.mem_of_getElem? (i := 10) rfl)) (by decide) (by decide)) (g := (mkF m 36 #[.val (.ref a1), .val (.ref a2)] [(.ref b40), (.ref b27), (.long (0 : Int64)), (.ref w_COMPLETED), (.ref b15), (.ref b15)])) rfl (by rw [hml]; rfl) (Steps.refl _) (a := b15) (argsL := [(.ref w_COMPLETED), (.long (0 : Int64)), (.ref b27), (.ref b40)]) (rest := [(.ref b15)]) (lenOf pd_8490cb10 rfl) rfl (by show 2 * 0 + _ ≤ _; exact Nat.le_of_eq rfl) (hb hby d10_36) (fun _ _ => ⟨rfl, e54, (by decide : 7 + 0 ≤ _), (by decide : 236 + 0 ≤ _)⟩)
  dsimp only [Pt.U, Pt.locs, Pt.cells, Pt.slots] at X55 l55 y55 z55 st55 hQ55
  subst l55 y55 z55
  obtain ⟨rfl, N55q, Kq55, Fa55, Fb55, Fc55⟩ := hQ55
  have N55 := Fr.app N14 N55q
  have f56 := f41.keep Kq55 (ninS ne_a1_b15 nin0)
  have f57 := f42.keep Kq55 (ninS ne_a2_b15 nin0)
  have f58 := f43.keep Kq55
  have f59 := f44.keep Kq55
  have f60 := f45.keep Kq55
  have f61 := f50.keep Kq55 (ninS (Ne.symm ne_b15_b27) nin0)
  have f62 := f51.keep Kq55
  have f63 := V40.keep Kq55 (ninS (Ne.symm ne_b15_b40) nin0)
  have f64 := B40.keep Kq55
  have OLD65 := OLD52.keep Kq55 (allS q_b15 all0)
  have K65 := K52.trans Kq55 (allS (Or.inr sz_b15) all0)
  have Z65 := Nat.le_trans Z52 Kq55.1
  have hk66 := Nat.le_trans hk53 Kq55.1
  refine ogoW (fun t k => st55.trans k) ?_
  show OwnEndsW _ _ _ _ _ _ _ (T55.setTop (mkF m 39 #[.val (.ref a1), .val (.ref a2)] [(.ref b15)]))
  refine endAW X55 hS8 hk66 hx hlk hret rfl rfl (hb hby d10_39) (by decide) (by decide) ?_
  show Q10 Z a1 a2 z1 vs1 z2 vs2 w_COMPLETED h0 n0 _ T55.heap _
  exact ⟨b15, b27, b40, rfl, sz_b15, sz_b27, sz_b40, N55, K65, f60, Fa55, Fb55, Fc55, ⟨_, f61⟩, ⟨_, f63⟩, f62, f64⟩
theorem pd__I__B : parseMethodDescriptor "(I)[B" = some ⟨[.int], some (.array .byte)⟩ := by decide +kernel
theorem pd_ef6f4123 : parseMethodDescriptor "([B[B)Lcom/example/once_guard/onceguard/ClaimResult;" = some ⟨[(.array .byte), (.array .byte)], some (.object "com/example/once_guard/onceguard/ClaimResult")⟩ := by decide +kernel
theorem pd___BI_V : parseMethodDescriptor "([BI)V" = some ⟨[(.array .byte), .int], none⟩ := by decide +kernel
theorem pd___Lcom_example_once_guard_onceguard_ClaimResult_State_ : parseMethodDescriptor "()Lcom/example/once_guard/onceguard/ClaimResult$State;" = some ⟨[], some (.object "com/example/once_guard/onceguard/ClaimResult$State")⟩ := by decide +kernel
theorem pd____B : parseMethodDescriptor "()[B" = some ⟨[], some (.array .byte)⟩ := by decide +kernel
theorem pd___BI_Z : parseMethodDescriptor "([BI)Z" = some ⟨[(.array .byte), .int], some .boolean⟩ := by decide +kernel
theorem ef_0 (m : MethodId) (x0 : Int32) (x1 : Int32) (x2 : Int32) : entryFrame m #[(.int x0), (.int x1), (.int x2)] maxLocals = mkF m 0 #[.val (.int x0), .val (.int x1), .val (.int x2), .unset, .unset, .unset, .unset, .unset, .unset, .unset, .unset] [] := by first | (simp [entryFrame, mkF, argsToLocals, Value.category, maxLocals]; done) | rfl
def Q0 (Z : State) (p0 p1 p2 : Int32) (w_COMPLETED w_CLAIMED : Addr) (h0 : Heap) (n0 : Nat) (v : Option Value) (h : Heap) (L : List Loc) : Prop := v = some (.int 1) ∧ Fr n0 L
set_option maxRecDepth 65536 in
set_option maxHeartbeats 40000000 in
theorem rm0 (l : Launch) (Z : State) (a0 : Array Value) (hw : ∀ d ∈ tables_1, d.before a0 Z = true) (ws : List Jvm.Cond) (p0 p1 p2 : Int32) (w_COMPLETED w_CLAIMED : Addr) (h0 : Heap) (n0 : Nat) (Z0 : n0 ≤ h0.size) (OLD : Old Z n0 h0) (S_COMPLETED : Sta Z Z.heap "com/example/once_guard/onceguard/ClaimResult$State" "COMPLETED" "Lcom/example/once_guard/onceguard/ClaimResult$State;" (.ref w_COMPLETED)) (E_COMPLETED : Exa Z Z.heap w_COMPLETED "com/example/once_guard/onceguard/ClaimResult$State") (F_ordinal_COMPLETED : Fld Z Z.heap w_COMPLETED "java/lang/Enum" "ordinal" "I" (.int (2 : Int32))) (S_CLAIMED : Sta Z Z.heap "com/example/once_guard/onceguard/ClaimResult$State" "CLAIMED" "Lcom/example/once_guard/onceguard/ClaimResult$State;" (.ref w_CLAIMED)) (E_CLAIMED : Exa Z Z.heap w_CLAIMED "com/example/once_guard/onceguard/ClaimResult$State") (F_ordinal_CLAIMED : Fld Z Z.heap w_CLAIMED "java/lang/Enum" "ordinal" "I" (.int (0 : Int32))) :
    MetFree l x (head1 (Jvm.Cond.code x code maxLocals ret :: ws) room_1) (fun a U => a = #[(.int p0), (.int p1), (.int p2)] ∧ Z.Warmed39 U.vm ∧ U.heap = h0) (fun _ _ _ _ _ => True) (fun _ U o U' => ∃ v L, o = .returned v ∧ Q0 Z p0 p1 p2 w_COMPLETED w_CLAIMED h0 n0 v U'.heap L ∧ ReturnedEndW U o U' L 32 2176) := by
  refine MetFree.of_bodySF (plainFor_of_name pn_ClaimResultCompletedPinLaw) hisR ?_
  intro p e s m args below meth c s₁ Bd hml0 hP hK
  obtain ⟨rfl, hZ, hh⟩ := hP
  have hx := Bd.exec
  have hby := Bd.bytes
  have hml : c.maxLocals = 11 := hml0
  have hown : s.vm.findClass "com/example/once_guard/onceguard/ClaimResultCompletedPinLaw" = some m.cls := findClass_of_methodNamed Bd.named
  have hnm := (name_of_methodNamed Bd.named Bd.method).1
  have hlk : meth.locks = false := BodyLoose.notSynchronized Bd
  have hret := Bd.returns
  have X0 : Stand p l e room_1 s m #[(.int p0), (.int p1), (.int p2)] below meth c s₁ [] 0 0 := Stand.of_body Bd
  have e0 : s₁.heap = h0 := by rw [← hh, Bd.state]; rfl
  have N0 := Fr.nil n0
  have X0 : Stand p l e room_1 (s.setVm s.vm) m #[(.int p0), (.int p1), (.int p2)] below meth c s₁ [] 0 0 := X0
  have hZ : Z.Warmed39 (s.setVm s.vm).vm := hZ
  have hown : (s.setVm s.vm).vm.findClass "com/example/once_guard/onceguard/ClaimResultCompletedPinLaw" = some m.cls := hown
  have hS0 : s.Since s.vm 0 := own_since0 s
  refine ogoW (U' := s₁.setTop (mkF m 0 #[.val (.int p0), .val (.int p1), .val (.int p2), .unset, .unset, .unset, .unset, .unset, .unset, .unset, .unset] [])) (Q := Q0 Z p0 p1 p2 w_COMPLETED w_CLAIMED h0 n0) (K := 32) (N := 2176) (fun t k => castTop (ef_0 m p0 p1 p2) k) ?_
  show OwnEndsW _ _ _ _ _ _ _ (s₁.setTop (mkF m 0 #[.val (.int p0), .val (.int p1), .val (.int p2), .unset, .unset, .unset, .unset, .unset, .unset, .unset, .unset] []))
  refine ogoW (fun t k => XS.iloadN X0.here hx rfl (hb hby at_0) rfl k) ?_
  show OwnEndsW _ _ _ _ _ _ _ (s₁.setTop (mkF m 1 #[.val (.int p0), .val (.int p1), .val (.int p2), .unset, .unset, .unset, .unset, .unset, .unset, .unset, .unset] [(.int p0)]))
  obtain ⟨v1, _, ⟨T1, L1, k1, n1⟩, -, X1, ⟨Lc1, hQ1, l1, y1, z1⟩, st1⟩ := Jvm.LawKit.callS X0 hx (y := (⟨"com/example/once_guard/onceguard/ClaimResultCompletedPinLaw", "make", "(I)[B"⟩ : MethodName)) hown (mvT hZ (hw _ (List.mem_of_getElem? (i := 0) rfl))) (mvT hZ (hw _ (List.mem_of_getElem? (i := 1) rfl))) (mvT hZ (hw _ (List.mem_of_getElem? (i := 2) rfl))) (mvT hZ (hw _ (List.mem_of_getElem? (i := 3) rfl))) (by decide) (backOf (W := 0) (rm2 l Z a0 hw [] p0 h0 n0 Z0 OLD) hZ (hw _ (List.mem_of_getElem? (i := 3) rfl)) (hw _ (List.mem_of_getElem? (i := 2) rfl)) (by decide) (by decide)) (g := (mkF m 1 #[.val (.int p0), .val (.int p1), .val (.int p2), .unset, .unset, .unset, .unset, .unset, .unset, .unset, .unset] [(.int p0)])) rfl (by rw [hml]; rfl) (argsL := [(.int p0)]) (rest := []) (lenOf pd__I__B rfl) rfl (by show 2 * 0 + _ ≤ _; exact Nat.le_of_eq rfl) (hb hby at_1) (fun _ _ => ⟨rfl, e0, (by decide : 0 + 1 ≤ _), (by decide : 0 + 3 ≤ _)⟩)
  dsimp only [Pt.U, Pt.locs, Pt.cells, Pt.slots] at X1 l1 y1 z1 st1 hQ1
  subst l1 y1 z1
  obtain ⟨r1, rfl, Sq1, N1q, Kq1, Vq1, Eq1⟩ := hQ1
  have N1 := Fr.app N0 N1q
  have q_r1 : n0 ≤ r1 := Nat.le_trans Z0 Sq1
  have sz_r1 : h0.size ≤ r1 := Nat.le_trans (Keep.refl h0 []).1 Sq1
  have OLD2 := OLD.keep Kq1 all0
  have K2 := (Keep.refl h0 []).trans Kq1 all0
  have Z2 := Nat.le_trans Z0 Kq1.1
  refine ogoW (fun t k => st1 t k) ?_
  show OwnEndsW _ _ _ _ _ _ _ (T1.setTop (mkF m 4 #[.val (.int p0), .val (.int p1), .val (.int p2), .unset, .unset, .unset, .unset, .unset, .unset, .unset, .unset] [(.ref r1)]))
  refine ogoW (fun t k => XS.astoreN X1.here hx rfl (hb hby at_4) rfl rfl (l' := #[.val (.int p0), .val (.int p1), .val (.int p2), .val (.ref r1), .unset, .unset, .unset, .unset, .unset, .unset, .unset]) rfl k) ?_
  show OwnEndsW _ _ _ _ _ _ _ (T1.setTop (mkF m 5 #[.val (.int p0), .val (.int p1), .val (.int p2), .val (.ref r1), .unset, .unset, .unset, .unset, .unset, .unset, .unset] []))
  refine ogoW (fun t k => XS.iloadN X1.here hx rfl (hb hby at_5) rfl k) ?_
  show OwnEndsW _ _ _ _ _ _ _ (T1.setTop (mkF m 6 #[.val (.int p0), .val (.int p1), .val (.int p2), .val (.ref r1), .unset, .unset, .unset, .unset, .unset, .unset, .unset] [(.int p1)]))
  obtain ⟨v3, _, ⟨T3, L3, k3, n3⟩, -, X3, ⟨Lc3, hQ3, l3, y3, z3⟩, st3⟩ := Jvm.LawKit.callS X1 hx (y := (⟨"com/example/once_guard/onceguard/ClaimResultCompletedPinLaw", "make", "(I)[B"⟩ : MethodName)) hown (mvT hZ (hw _ (List.mem_of_getElem? (i := 0) rfl))) (mvT hZ (hw _ (List.mem_of_getElem? (i := 1) rfl))) (mvT hZ (hw _ (List.mem_of_getElem? (i := 2) rfl))) (mvT hZ (hw _ (List.mem_of_getElem? (i := 3) rfl))) (by decide) (backOf (W := 0) (rm2 l Z a0 hw [] p1 T1.heap n0 Z2 OLD2) hZ (hw _ (List.mem_of_getElem? (i := 3) rfl)) (hw _ (List.mem_of_getElem? (i := 2) rfl)) (by decide) (by decide)) (g := (mkF m 6 #[.val (.int p0), .val (.int p1), .val (.int p2), .val (.ref r1), .unset, .unset, .unset, .unset, .unset, .unset, .unset] [(.int p1)])) rfl (by rw [hml]; rfl) (argsL := [(.int p1)]) (rest := []) (lenOf pd__I__B rfl) rfl (by show 2 * 0 + _ ≤ _; exact Nat.le_of_eq rfl) (hb hby at_6) (fun _ _ => ⟨rfl, rfl, (by decide : 1 + 1 ≤ _), (by decide : 3 + 3 ≤ _)⟩)
  dsimp only [Pt.U, Pt.locs, Pt.cells, Pt.slots] at X3 l3 y3 z3 st3 hQ3
  subst l3 y3 z3
  obtain ⟨r3, rfl, Sq3, N3q, Kq3, Vq3, Eq3⟩ := hQ3
  have N3 := Fr.app N1 N3q
  have ne_r1_r3 : r1 ≠ r3 := Nat.ne_of_lt (Nat.lt_of_lt_of_le (Vq1).lt Sq3)
  have q_r3 : n0 ≤ r3 := Nat.le_trans Z2 Sq3
  have sz_r3 : h0.size ≤ r3 := Nat.le_trans K2.1 Sq3
  have f4 := Vq1.keep Kq3 nin0
  have f5 := Eq1.keep Kq3
  have OLD6 := OLD2.keep Kq3 all0
  have K6 := K2.trans Kq3 all0
  have Z6 := Nat.le_trans Z2 Kq3.1
  refine ogoW (fun t k => st3 t k) ?_
  show OwnEndsW _ _ _ _ _ _ _ (T3.setTop (mkF m 9 #[.val (.int p0), .val (.int p1), .val (.int p2), .val (.ref r1), .unset, .unset, .unset, .unset, .unset, .unset, .unset] [(.ref r3)]))
  refine ogoW (fun t k => XS.astore X3.here hx rfl (hb hby at_9) rfl rfl (l' := #[.val (.int p0), .val (.int p1), .val (.int p2), .val (.ref r1), .val (.ref r3), .unset, .unset, .unset, .unset, .unset, .unset]) rfl k) ?_
  show OwnEndsW _ _ _ _ _ _ _ (T3.setTop (mkF m 11 #[.val (.int p0), .val (.int p1), .val (.int p2), .val (.ref r1), .val (.ref r3), .unset, .unset, .unset, .unset, .unset, .unset] []))
  refine ogoW (fun t k => XS.aloadN X3.here hx rfl (hb hby at_11) rfl rfl k) ?_
  show OwnEndsW _ _ _ _ _ _ _ (T3.setTop (mkF m 12 #[.val (.int p0), .val (.int p1), .val (.int p2), .val (.ref r1), .val (.ref r3), .unset, .unset, .unset, .unset, .unset, .unset] [(.ref r1)]))
  refine ogoW (fun t k => XS.aload X3.here hx rfl (hb hby at_12) rfl rfl k) ?_
  show OwnEndsW _ _ _ _ _ _ _ (T3.setTop (mkF m 14 #[.val (.int p0), .val (.int p1), .val (.int p2), .val (.ref r1), .val (.ref r3), .unset, .unset, .unset, .unset, .unset, .unset] [(.ref r3), (.ref r1)]))
  obtain ⟨v7, _, ⟨T7, L7, k7, n7⟩, -, X7, hSq7, hgq7, ⟨Lc7, hQ7, l7, y7, z7⟩, st7⟩ := callSS X3 hx (y := (⟨"com/example/once_guard/onceguard/ClaimResult", "completed", "([B[B)Lcom/example/once_guard/onceguard/ClaimResult;"⟩ : MethodName)) hown (mvT hZ (hw _ (List.mem_of_getElem? (i := 8) rfl))) (mvT hZ (hw _ (List.mem_of_getElem? (i := 9) rfl))) (mvT hZ (hw _ (List.mem_of_getElem? (i := 10) rfl))) (mvT hZ (hw _ (List.mem_of_getElem? (i := 11) rfl))) (by decide) (backOfS (W := 0) (rm10 l Z a0 hw [] r1 r3 (own_len p0) (own_bs p0) (own_len p1) (own_bs p1) w_COMPLETED T3.heap n0 Z6 OLD6 S_COMPLETED f4 Vq3 f5 Eq3 (own_len_cap _) (own_len_cap _)) hZ (hw _ (List.mem_of_getElem? (i := 11) rfl)) (hw _ (List.mem_of_getElem? (i := 10) rfl)) (by decide) (by decide)) (g := (mkF m 14 #[.val (.int p0), .val (.int p1), .val (.int p2), .val (.ref r1), .val (.ref r3), .unset, .unset, .unset, .unset, .unset, .unset] [(.ref r3), (.ref r1)])) rfl (by rw [hml]; rfl) (argsL := [(.ref r1), (.ref r3)]) (rest := []) (lenOf pd_ef6f4123 rfl) rfl (by show 2 * 0 + _ ≤ _; exact Nat.le_of_eq rfl) (hb hby at_14) (fun _ _ => ⟨rfl, rfl, (by decide : 2 + 7 ≤ _), (by decide : 6 + 236 ≤ _)⟩)
  dsimp only [Pt.U, Pt.locs, Pt.cells, Pt.slots] at X7 l7 y7 z7 st7 hQ7 hSq7 hgq7
  subst l7 y7 z7
  obtain ⟨X7, hS7, hZ, hown⟩ := rebS hS0 (Nat.zero_le _) X7 hSq7 hgq7 hZ hown
  obtain ⟨r7, x71, x72, rfl, Sq7, Sp7, Sr7, N7q, Kq7, Eq7, Fa7, Fb7, Fc7, Va7, Vb7, Ea7, Eb7⟩ := hQ7
  have N7 := Fr.app N3 N7q
  have ne_r1_r7 : r1 ≠ r7 := Nat.ne_of_lt (Nat.lt_of_lt_of_le (f4).lt Sq7)
  have ne_r3_r7 : r3 ≠ r7 := Nat.ne_of_lt (Nat.lt_of_lt_of_le (Vq3).lt Sq7)
  have q_r7 : n0 ≤ r7 := Nat.le_trans Z6 Sq7
  have sz_r7 : h0.size ≤ r7 := Nat.le_trans K6.1 Sq7
  have ne_r1_x71 : r1 ≠ x71 := Nat.ne_of_lt (Nat.lt_of_lt_of_le (f4).lt Sp7)
  have ne_r3_x71 : r3 ≠ x71 := Nat.ne_of_lt (Nat.lt_of_lt_of_le (Vq3).lt Sp7)
  have q_x71 : n0 ≤ x71 := Nat.le_trans Z6 Sp7
  have sz_x71 : h0.size ≤ x71 := Nat.le_trans K6.1 Sp7
  have ne_r1_x72 : r1 ≠ x72 := Nat.ne_of_lt (Nat.lt_of_lt_of_le (f4).lt Sr7)
  have ne_r3_x72 : r3 ≠ x72 := Nat.ne_of_lt (Nat.lt_of_lt_of_le (Vq3).lt Sr7)
  have q_x72 : n0 ≤ x72 := Nat.le_trans Z6 Sr7
  have sz_x72 : h0.size ≤ x72 := Nat.le_trans K6.1 Sr7
  have f8 := f4.keep Kq7 nin0
  have f9 := f5.keep Kq7
  have f10 := Vq3.keep Kq7 nin0
  have f11 := Eq3.keep Kq7
  have OLD12 := OLD6.keep Kq7 all0
  have K12 := K6.trans Kq7 all0
  have Z12 := Nat.le_trans Z6 Kq7.1
  refine ogoW (fun t k => st7.trans k) ?_
  show OwnEndsW _ _ _ _ _ _ _ (T7.setTop (mkF m 17 #[.val (.int p0), .val (.int p1), .val (.int p2), .val (.ref r1), .val (.ref r3), .unset, .unset, .unset, .unset, .unset, .unset] [(.ref r7)]))
  refine ogoW (fun t k => XS.astore X7.here hx rfl (hb hby at_17) rfl rfl (l' := #[.val (.int p0), .val (.int p1), .val (.int p2), .val (.ref r1), .val (.ref r3), .val (.ref r7), .unset, .unset, .unset, .unset, .unset]) rfl k) ?_
  show OwnEndsW _ _ _ _ _ _ _ (T7.setTop (mkF m 19 #[.val (.int p0), .val (.int p1), .val (.int p2), .val (.ref r1), .val (.ref r3), .val (.ref r7), .unset, .unset, .unset, .unset, .unset] []))
  refine ogoW (fun t k => XS.aloadN X7.here hx rfl (hb hby at_19) rfl rfl k) ?_
  show OwnEndsW _ _ _ _ _ _ _ (T7.setTop (mkF m 20 #[.val (.int p0), .val (.int p1), .val (.int p2), .val (.ref r1), .val (.ref r3), .val (.ref r7), .unset, .unset, .unset, .unset, .unset] [(.ref r1)]))
  refine ogoW (fun t k => XS.iloadN X7.here hx rfl (hb hby at_20) rfl k) ?_
  show OwnEndsW _ _ _ _ _ _ _ (T7.setTop (mkF m 21 #[.val (.int p0), .val (.int p1), .val (.int p2), .val (.ref r1), .val (.ref r3), .val (.ref r7), .unset, .unset, .unset, .unset, .unset] [(.int p2), (.ref r1)]))
  obtain ⟨v13, _, ⟨T13, L13, k13, n13⟩, -, X13, ⟨Lc13, hQ13, l13, y13, z13⟩, st13⟩ := Jvm.LawKit.callS X7 hx (y := (⟨"com/example/once_guard/onceguard/ClaimResultCompletedPinLaw", "spoil", "([BI)V"⟩ : MethodName)) hown (mvT hZ (hw _ (List.mem_of_getElem? (i := 52) rfl))) (mvT hZ (hw _ (List.mem_of_getElem? (i := 53) rfl))) (mvT hZ (hw _ (List.mem_of_getElem? (i := 2) rfl))) (mvT hZ (hw _ (List.mem_of_getElem? (i := 54) rfl))) (by decide) (backOf (W := 0) (rm3 l Z a0 hw [] r1 p2 (own_len p0) (own_bs p0) T7.heap n0 Z12 OLD12 f8 (own_bs_int p0) q_r1) hZ (hw _ (List.mem_of_getElem? (i := 54) rfl)) (hw _ (List.mem_of_getElem? (i := 2) rfl)) (by decide) (by decide)) (g := (mkF m 21 #[.val (.int p0), .val (.int p1), .val (.int p2), .val (.ref r1), .val (.ref r3), .val (.ref r7), .unset, .unset, .unset, .unset, .unset] [(.int p2), (.ref r1)])) rfl (by rw [hml]; rfl) (argsL := [(.ref r1), (.int p2)]) (rest := []) (lenOf pd___BI_V rfl) rfl (by show 2 * 0 + _ ≤ _; exact Nat.le_of_eq rfl) (hb hby at_21) (fun _ _ => ⟨rfl, rfl, (by decide : 9 + 0 ≤ _), (by decide : 242 + 0 ≤ _)⟩)
  dsimp only [Pt.U, Pt.locs, Pt.cells, Pt.slots] at X13 l13 y13 z13 st13 hQ13
  subst l13 y13 z13
  obtain ⟨rfl, N13q, Kq13⟩ := hQ13
  have N13 := Fr.app N7 N13q
  have f14 := f9.keep Kq13
  have f15 := f10.keep Kq13 (ninS (Ne.symm ne_r1_r3) nin0)
  have f16 := f11.keep Kq13
  have f17 := Eq7.keep Kq13
  have f18 := Fa7.keep Kq13 (ninS (Ne.symm ne_r1_r7) nin0)
  have f19 := Fb7.keep Kq13 (ninS (Ne.symm ne_r1_r7) nin0)
  have f20 := Fc7.keep Kq13 (ninS (Ne.symm ne_r1_r7) nin0)
  have f21 := Va7.keep Kq13 (ninS (Ne.symm ne_r1_x71) nin0)
  have f22 := Vb7.keep Kq13 (ninS (Ne.symm ne_r1_x72) nin0)
  have f23 := Ea7.keep Kq13
  have f24 := Eb7.keep Kq13
  have OLD25 := OLD12.keep Kq13 (allS q_r1 all0)
  have K25 := K12.trans Kq13 (allS (Or.inr sz_r1) all0)
  have Z25 := Nat.le_trans Z12 Kq13.1
  have hk26 := Nat.le_trans (Nat.le_refl _) Kq13.1
  refine ogoW (fun t k => st13 t k) ?_
  show OwnEndsW _ _ _ _ _ _ _ (T13.setTop (mkF m 24 #[.val (.int p0), .val (.int p1), .val (.int p2), .val (.ref r1), .val (.ref r3), .val (.ref r7), .unset, .unset, .unset, .unset, .unset] []))
  refine ogoW (fun t k => XS.aload X13.here hx rfl (hb hby at_24) rfl rfl k) ?_
  show OwnEndsW _ _ _ _ _ _ _ (T13.setTop (mkF m 26 #[.val (.int p0), .val (.int p1), .val (.int p2), .val (.ref r1), .val (.ref r3), .val (.ref r7), .unset, .unset, .unset, .unset, .unset] [(.ref r3)]))
  refine ogoW (fun t k => XS.iloadN X13.here hx rfl (hb hby at_26) rfl k) ?_
  show OwnEndsW _ _ _ _ _ _ _ (T13.setTop (mkF m 27 #[.val (.int p0), .val (.int p1), .val (.int p2), .val (.ref r1), .val (.ref r3), .val (.ref r7), .unset, .unset, .unset, .unset, .unset] [(.int p2), (.ref r3)]))
  refine ogoW (fun t k => XS.iconst X13.here hx rfl (hb hby at_27) k) ?_
  show OwnEndsW _ _ _ _ _ _ _ (T13.setTop (mkF m 28 #[.val (.int p0), .val (.int p1), .val (.int p2), .val (.ref r1), .val (.ref r3), .val (.ref r7), .unset, .unset, .unset, .unset, .unset] [(.int (2 : Int32)), (.int p2), (.ref r3)]))
  refine ogoW (fun t k => XS.iushr X13.here hx rfl (hb hby at_28) rfl k) ?_
  show OwnEndsW _ _ _ _ _ _ _ (T13.setTop (mkF m 29 #[.val (.int p0), .val (.int p1), .val (.int p2), .val (.ref r1), .val (.ref r3), .val (.ref r7), .unset, .unset, .unset, .unset, .unset] [(.int ((p2.toUInt32 >>> ((2 : Int32) &&& 31).toUInt32).toInt32)), (.ref r3)]))
  obtain ⟨v27, _, ⟨T27, L27, k27, n27⟩, -, X27, ⟨Lc27, hQ27, l27, y27, z27⟩, st27⟩ := Jvm.LawKit.callS X13 hx (y := (⟨"com/example/once_guard/onceguard/ClaimResultCompletedPinLaw", "spoil", "([BI)V"⟩ : MethodName)) hown (mvT hZ (hw _ (List.mem_of_getElem? (i := 52) rfl))) (mvT hZ (hw _ (List.mem_of_getElem? (i := 53) rfl))) (mvT hZ (hw _ (List.mem_of_getElem? (i := 2) rfl))) (mvT hZ (hw _ (List.mem_of_getElem? (i := 54) rfl))) (by decide) (backOf (W := 0) (rm3 l Z a0 hw [] r3 ((p2.toUInt32 >>> ((2 : Int32) &&& 31).toUInt32).toInt32) (own_len p1) (own_bs p1) T13.heap n0 Z25 OLD25 f15 (own_bs_int p1) q_r3) hZ (hw _ (List.mem_of_getElem? (i := 54) rfl)) (hw _ (List.mem_of_getElem? (i := 2) rfl)) (by decide) (by decide)) (g := (mkF m 29 #[.val (.int p0), .val (.int p1), .val (.int p2), .val (.ref r1), .val (.ref r3), .val (.ref r7), .unset, .unset, .unset, .unset, .unset] [(.int ((p2.toUInt32 >>> ((2 : Int32) &&& 31).toUInt32).toInt32)), (.ref r3)])) rfl (by rw [hml]; rfl) (argsL := [(.ref r3), (.int ((p2.toUInt32 >>> ((2 : Int32) &&& 31).toUInt32).toInt32))]) (rest := []) (lenOf pd___BI_V rfl) rfl (by show 2 * 0 + _ ≤ _; exact Nat.le_of_eq rfl) (hb hby at_29) (fun _ _ => ⟨rfl, rfl, (by decide : 9 + 0 ≤ _), (by decide : 242 + 0 ≤ _)⟩)
  dsimp only [Pt.U, Pt.locs, Pt.cells, Pt.slots] at X27 l27 y27 z27 st27 hQ27
  subst l27 y27 z27
  obtain ⟨rfl, N27q, Kq27⟩ := hQ27
  have N27 := Fr.app N13 N27q
  have f28 := f14.keep Kq27
  have f29 := f16.keep Kq27
  have f30 := f17.keep Kq27
  have f31 := f18.keep Kq27 (ninS (Ne.symm ne_r3_r7) nin0)
  have f32 := f19.keep Kq27 (ninS (Ne.symm ne_r3_r7) nin0)
  have f33 := f20.keep Kq27 (ninS (Ne.symm ne_r3_r7) nin0)
  have f34 := f21.keep Kq27 (ninS (Ne.symm ne_r3_x71) nin0)
  have f35 := f22.keep Kq27 (ninS (Ne.symm ne_r3_x72) nin0)
  have f36 := f23.keep Kq27
  have f37 := f24.keep Kq27
  have OLD38 := OLD25.keep Kq27 (allS q_r3 all0)
  have K38 := K25.trans Kq27 (allS (Or.inr sz_r3) all0)
  have Z38 := Nat.le_trans Z25 Kq27.1
  have hk39 := Nat.le_trans hk26 Kq27.1
  refine ogoW (fun t k => st27 t k) ?_
  show OwnEndsW _ _ _ _ _ _ _ (T27.setTop (mkF m 32 #[.val (.int p0), .val (.int p1), .val (.int p2), .val (.ref r1), .val (.ref r3), .val (.ref r7), .unset, .unset, .unset, .unset, .unset] []))
  refine ogoW (fun t k => XS.aload X27.here hx rfl (hb hby at_32) rfl rfl k) ?_
  show OwnEndsW _ _ _ _ _ _ _ (T27.setTop (mkF m 34 #[.val (.int p0), .val (.int p1), .val (.int p2), .val (.ref r1), .val (.ref r3), .val (.ref r7), .unset, .unset, .unset, .unset, .unset] [(.ref r7)]))
  obtain ⟨cq40, kq40, q40a, q40b, q40c⟩ := isOf hZ rfl f30
  obtain ⟨v40, _, ⟨T40, L40, k40, n40⟩, -, X40, ⟨Lc40, hQ40, l40, y40, z40⟩, st40⟩ := X27.virtualBack hx (y := (⟨"com/example/once_guard/onceguard/ClaimResult", "state", "()Lcom/example/once_guard/onceguard/ClaimResult$State;"⟩ : MethodName)) (z := (⟨"com/example/once_guard/onceguard/ClaimResult", "state", "()Lcom/example/once_guard/onceguard/ClaimResult$State;"⟩ : MethodName)) hown (mvT hZ (hw _ (List.mem_of_getElem? (i := 55) rfl))) (mvT hZ (hw _ (List.mem_of_getElem? (i := 56) rfl))) (notFace_of_selects (args := #[]) (mvT hZ (hw _ (List.mem_of_getElem? (i := 58) rfl)))) (mvT hZ (hw _ (List.mem_of_getElem? (i := 58) rfl))) (mvT hZ (hw _ (List.mem_of_getElem? (i := 57) rfl))) (by decide) (backOf (W := 0) (rm7 l Z a0 hw [] r7 w_COMPLETED T27.heap n0 Z38 f31) hZ (hw _ (List.mem_of_getElem? (i := 59) rfl)) (hw _ (List.mem_of_getElem? (i := 10) rfl)) (by decide) (by decide)) q40a q40c (g := (mkF m 34 #[.val (.int p0), .val (.int p1), .val (.int p2), .val (.ref r1), .val (.ref r3), .val (.ref r7), .unset, .unset, .unset, .unset, .unset] [(.ref r7)])) rfl (by rw [hml]; rfl) (Steps.refl _) (argsL := []) (rest := []) (lenOf pd___Lcom_example_once_guard_onceguard_ClaimResult_State_ rfl) rfl (by show 2 * 0 + _ ≤ _; exact Nat.le_of_eq rfl) (hb hby at_34) (fun _ _ => ⟨rfl, rfl, (by decide : 9 + 0 ≤ _), (by decide : 242 + 0 ≤ _)⟩)
  dsimp only [Pt.U, Pt.locs, Pt.cells, Pt.slots] at X40 l40 y40 z40 st40 hQ40
  subst l40 y40 z40
  obtain ⟨rfl, N40q, e40⟩ := hQ40
  have N40 := Fr.app N27 N40q
  refine ogoW (fun t k => st40.trans k) ?_
  show OwnEndsW _ _ _ _ _ _ _ (T40.setTop (mkF m 37 #[.val (.int p0), .val (.int p1), .val (.int p2), .val (.ref r1), .val (.ref r3), .val (.ref r7), .unset, .unset, .unset, .unset, .unset] [(.ref w_COMPLETED)]))
  obtain ⟨T41, X41, e41, st41⟩ := getS2 X40 hx hZ hown (host := "") (Or.inl (hw _ (List.mem_of_getElem? (i := 60) rfl))) Via.refl e40 (S_COMPLETED.ext OLD38.2) (g := (mkF m 37 #[.val (.int p0), .val (.int p1), .val (.int p2), .val (.ref r1), .val (.ref r3), .val (.ref r7), .unset, .unset, .unset, .unset, .unset] [(.ref w_COMPLETED)])) rfl (hb hby at_37)
  refine ogoW st41 ?_
  show OwnEndsW _ _ _ _ _ _ _ (T41.setTop (mkF m 40 #[.val (.int p0), .val (.int p1), .val (.int p2), .val (.ref r1), .val (.ref r3), .val (.ref r7), .unset, .unset, .unset, .unset, .unset] [(.ref w_COMPLETED), (.ref w_COMPLETED)]))
  refine ogoW (fun t k => Jvm.RoadKit.acmp (g := (mkF m 40 #[.val (.int p0), .val (.int p1), .val (.int p2), .val (.ref r1), .val (.ref r3), .val (.ref r7), .unset, .unset, .unset, .unset, .unset] [(.ref w_COMPLETED), (.ref w_COMPLETED)])) X41 hx rfl rfl rfl (pc0 := 40) (pc' := 45) (same := true) rfl (hb hby at_40) rfl (decide_eq_true (congrArg Value.ref rfl)) (by decide) (by decide) k) ?_
  show OwnEndsW _ _ _ _ _ _ _ (T41.setTop (mkF m 45 #[.val (.int p0), .val (.int p1), .val (.int p2), .val (.ref r1), .val (.ref r3), .val (.ref r7), .unset, .unset, .unset, .unset, .unset] []))
  refine ogoW (fun t k => XS.aload X41.here hx rfl (hb hby at_45) rfl rfl k) ?_
  show OwnEndsW _ _ _ _ _ _ _ (T41.setTop (mkF m 47 #[.val (.int p0), .val (.int p1), .val (.int p2), .val (.ref r1), .val (.ref r3), .val (.ref r7), .unset, .unset, .unset, .unset, .unset] [(.ref r7)]))
  obtain ⟨cq42, kq42, q42a, q42b, q42c⟩ := isOf hZ e41 f30
  obtain ⟨v42, _, ⟨T42, L42, k42, n42⟩, -, X42, ⟨Lc42, hQ42, l42, y42, z42⟩, st42⟩ := X41.virtualBack hx (y := (⟨"com/example/once_guard/onceguard/ClaimResult", "payloadDigest", "()[B"⟩ : MethodName)) (z := (⟨"com/example/once_guard/onceguard/ClaimResult", "payloadDigest", "()[B"⟩ : MethodName)) hown (mvT hZ (hw _ (List.mem_of_getElem? (i := 61) rfl))) (mvT hZ (hw _ (List.mem_of_getElem? (i := 62) rfl))) (notFace_of_selects (args := #[]) (mvT hZ (hw _ (List.mem_of_getElem? (i := 64) rfl)))) (mvT hZ (hw _ (List.mem_of_getElem? (i := 64) rfl))) (mvT hZ (hw _ (List.mem_of_getElem? (i := 63) rfl))) (by decide) (backOf (W := 0) (rm8 l Z a0 hw [] r7 x71 (own_len p0) (own_bs p0) w_COMPLETED w_CLAIMED T27.heap n0 Z38 OLD38 S_CLAIMED f31 f32 f34 f36 (own_len_cap _) (Fld.ne F_ordinal_COMPLETED F_ordinal_CLAIMED (by simp))) hZ (hw _ (List.mem_of_getElem? (i := 65) rfl)) (hw _ (List.mem_of_getElem? (i := 10) rfl)) (by decide) (by decide)) q42a q42c (g := (mkF m 47 #[.val (.int p0), .val (.int p1), .val (.int p2), .val (.ref r1), .val (.ref r3), .val (.ref r7), .unset, .unset, .unset, .unset, .unset] [(.ref r7)])) rfl (by rw [hml]; rfl) (Steps.refl _) (argsL := []) (rest := []) (lenOf pd____B rfl) rfl (by show 2 * 0 + _ ≤ _; exact Nat.le_of_eq rfl) (hb hby at_47) (fun _ _ => ⟨rfl, e41, (by decide : 9 + 1 ≤ _), (by decide : 242 + 4 ≤ _)⟩)
  dsimp only [Pt.U, Pt.locs, Pt.cells, Pt.slots] at X42 l42 y42 z42 st42 hQ42
  subst l42 y42 z42
  obtain ⟨r42, rfl, Sq42, N42q, Kq42, Vq42, Eq42⟩ := hQ42
  have N42 := Fr.app N40 N42q
  have ne_r1_r42 : r1 ≠ r42 := Nat.ne_of_lt (Nat.lt_of_lt_of_le (f28).lt Sq42)
  have ne_r3_r42 : r3 ≠ r42 := Nat.ne_of_lt (Nat.lt_of_lt_of_le (f29).lt Sq42)
  have ne_r7_r42 : r7 ≠ r42 := Nat.ne_of_lt (Nat.lt_of_lt_of_le (f30).lt Sq42)
  have ne_x71_r42 : x71 ≠ r42 := Nat.ne_of_lt (Nat.lt_of_lt_of_le (f34).lt Sq42)
  have ne_x72_r42 : x72 ≠ r42 := Nat.ne_of_lt (Nat.lt_of_lt_of_le (f35).lt Sq42)
  have q_r42 : n0 ≤ r42 := Nat.le_trans Z38 Sq42
  have sz_r42 : h0.size ≤ r42 := Nat.le_trans K38.1 Sq42
  have f43 := f28.keep Kq42
  have f44 := f29.keep Kq42
  have f45 := f30.keep Kq42
  have f46 := f31.keep Kq42 nin0
  have f47 := f32.keep Kq42 nin0
  have f48 := f33.keep Kq42 nin0
  have f49 := f34.keep Kq42 nin0
  have f50 := f35.keep Kq42 nin0
  have f51 := f36.keep Kq42
  have f52 := f37.keep Kq42
  have OLD53 := OLD38.keep Kq42 all0
  have K53 := K38.trans Kq42 all0
  have Z53 := Nat.le_trans Z38 Kq42.1
  have hk54 := Nat.le_trans hk39 Kq42.1
  refine ogoW (fun t k => st42.trans k) ?_
  show OwnEndsW _ _ _ _ _ _ _ (T42.setTop (mkF m 50 #[.val (.int p0), .val (.int p1), .val (.int p2), .val (.ref r1), .val (.ref r3), .val (.ref r7), .unset, .unset, .unset, .unset, .unset] [(.ref r42)]))
  refine ogoW (fun t k => XS.astore X42.here hx rfl (hb hby at_50) rfl rfl (l' := #[.val (.int p0), .val (.int p1), .val (.int p2), .val (.ref r1), .val (.ref r3), .val (.ref r7), .val (.ref r42), .unset, .unset, .unset, .unset]) rfl k) ?_
  show OwnEndsW _ _ _ _ _ _ _ (T42.setTop (mkF m 52 #[.val (.int p0), .val (.int p1), .val (.int p2), .val (.ref r1), .val (.ref r3), .val (.ref r7), .val (.ref r42), .unset, .unset, .unset, .unset] []))
  refine ogoW (fun t k => XS.aload X42.here hx rfl (hb hby at_52) rfl rfl k) ?_
  show OwnEndsW _ _ _ _ _ _ _ (T42.setTop (mkF m 54 #[.val (.int p0), .val (.int p1), .val (.int p2), .val (.ref r1), .val (.ref r3), .val (.ref r7), .val (.ref r42), .unset, .unset, .unset, .unset] [(.ref r7)]))
  obtain ⟨cq55, kq55, q55a, q55b, q55c⟩ := isOf hZ rfl f45
  obtain ⟨v55, _, ⟨T55, L55, k55, n55⟩, -, X55, ⟨Lc55, hQ55, l55, y55, z55⟩, st55⟩ := X42.virtualBack hx (y := (⟨"com/example/once_guard/onceguard/ClaimResult", "outcome", "()[B"⟩ : MethodName)) (z := (⟨"com/example/once_guard/onceguard/ClaimResult", "outcome", "()[B"⟩ : MethodName)) hown (mvT hZ (hw _ (List.mem_of_getElem? (i := 68) rfl))) (mvT hZ (hw _ (List.mem_of_getElem? (i := 69) rfl))) (notFace_of_selects (args := #[]) (mvT hZ (hw _ (List.mem_of_getElem? (i := 71) rfl)))) (mvT hZ (hw _ (List.mem_of_getElem? (i := 71) rfl))) (mvT hZ (hw _ (List.mem_of_getElem? (i := 70) rfl))) (by decide) (backOf (W := 0) (rm9 l Z a0 hw [] r7 x72 (own_len p1) (own_bs p1) w_COMPLETED T42.heap n0 Z53 OLD53 S_COMPLETED f46 f48 f50 f52 (own_len_cap _)) hZ (hw _ (List.mem_of_getElem? (i := 72) rfl)) (hw _ (List.mem_of_getElem? (i := 10) rfl)) (by decide) (by decide)) q55a q55c (g := (mkF m 54 #[.val (.int p0), .val (.int p1), .val (.int p2), .val (.ref r1), .val (.ref r3), .val (.ref r7), .val (.ref r42), .unset, .unset, .unset, .unset] [(.ref r7)])) rfl (by rw [hml]; rfl) (Steps.refl _) (argsL := []) (rest := []) (lenOf pd____B rfl) rfl (by show 2 * 0 + _ ≤ _; exact Nat.le_of_eq rfl) (hb hby at_54) (fun _ _ => ⟨rfl, rfl, (by decide : 10 + 1 ≤ _), (by decide : 246 + 4 ≤ _)⟩)
  dsimp only [Pt.U, Pt.locs, Pt.cells, Pt.slots] at X55 l55 y55 z55 st55 hQ55
  subst l55 y55 z55
  obtain ⟨r55, rfl, Sq55, N55q, Kq55, Vq55, Eq55⟩ := hQ55
  have N55 := Fr.app N42 N55q
  have ne_r1_r55 : r1 ≠ r55 := Nat.ne_of_lt (Nat.lt_of_lt_of_le (f43).lt Sq55)
  have ne_r3_r55 : r3 ≠ r55 := Nat.ne_of_lt (Nat.lt_of_lt_of_le (f44).lt Sq55)
  have ne_r7_r55 : r7 ≠ r55 := Nat.ne_of_lt (Nat.lt_of_lt_of_le (f45).lt Sq55)
  have ne_x71_r55 : x71 ≠ r55 := Nat.ne_of_lt (Nat.lt_of_lt_of_le (f49).lt Sq55)
  have ne_x72_r55 : x72 ≠ r55 := Nat.ne_of_lt (Nat.lt_of_lt_of_le (f50).lt Sq55)
  have ne_r42_r55 : r42 ≠ r55 := Nat.ne_of_lt (Nat.lt_of_lt_of_le (Vq42).lt Sq55)
  have q_r55 : n0 ≤ r55 := Nat.le_trans Z53 Sq55
  have sz_r55 : h0.size ≤ r55 := Nat.le_trans K53.1 Sq55
  have f56 := f43.keep Kq55
  have f57 := f44.keep Kq55
  have f58 := f45.keep Kq55
  have f59 := f46.keep Kq55 nin0
  have f60 := f47.keep Kq55 nin0
  have f61 := f48.keep Kq55 nin0
  have f62 := f49.keep Kq55 nin0
  have f63 := f50.keep Kq55 nin0
  have f64 := f51.keep Kq55
  have f65 := f52.keep Kq55
  have f66 := Vq42.keep Kq55 nin0
  have f67 := Eq42.keep Kq55
  have OLD68 := OLD53.keep Kq55 all0
  have K68 := K53.trans Kq55 all0
  have Z68 := Nat.le_trans Z53 Kq55.1
  have hk69 := Nat.le_trans hk54 Kq55.1
  refine ogoW (fun t k => st55.trans k) ?_
  show OwnEndsW _ _ _ _ _ _ _ (T55.setTop (mkF m 57 #[.val (.int p0), .val (.int p1), .val (.int p2), .val (.ref r1), .val (.ref r3), .val (.ref r7), .val (.ref r42), .unset, .unset, .unset, .unset] [(.ref r55)]))
  refine ogoW (fun t k => XS.astore X55.here hx rfl (hb hby at_57) rfl rfl (l' := #[.val (.int p0), .val (.int p1), .val (.int p2), .val (.ref r1), .val (.ref r3), .val (.ref r7), .val (.ref r42), .val (.ref r55), .unset, .unset, .unset]) rfl k) ?_
  show OwnEndsW _ _ _ _ _ _ _ (T55.setTop (mkF m 59 #[.val (.int p0), .val (.int p1), .val (.int p2), .val (.ref r1), .val (.ref r3), .val (.ref r7), .val (.ref r42), .val (.ref r55), .unset, .unset, .unset] []))
  refine ogoW (fun t k => XS.aload X55.here hx rfl (hb hby at_59) rfl rfl k) ?_
  show OwnEndsW _ _ _ _ _ _ _ (T55.setTop (mkF m 61 #[.val (.int p0), .val (.int p1), .val (.int p2), .val (.ref r1), .val (.ref r3), .val (.ref r7), .val (.ref r42), .val (.ref r55), .unset, .unset, .unset] [(.ref r42)]))
  refine ogoW (fun t k => XS.iloadN X55.here hx rfl (hb hby at_61) rfl k) ?_
  show OwnEndsW _ _ _ _ _ _ _ (T55.setTop (mkF m 62 #[.val (.int p0), .val (.int p1), .val (.int p2), .val (.ref r1), .val (.ref r3), .val (.ref r7), .val (.ref r42), .val (.ref r55), .unset, .unset, .unset] [(.int p0), (.ref r42)]))
  obtain ⟨v70, _, ⟨T70, L70, k70, n70⟩, -, X70, ⟨Lc70, hQ70, l70, y70, z70⟩, st70⟩ := Jvm.LawKit.callS X55 hx (y := (⟨"com/example/once_guard/onceguard/ClaimResultCompletedPinLaw", "matches", "([BI)Z"⟩ : MethodName)) hown (mvT hZ (hw _ (List.mem_of_getElem? (i := 73) rfl))) (mvT hZ (hw _ (List.mem_of_getElem? (i := 74) rfl))) (mvT hZ (hw _ (List.mem_of_getElem? (i := 2) rfl))) (mvT hZ (hw _ (List.mem_of_getElem? (i := 75) rfl))) (by decide) (backOf (W := 0) (rm4 l Z a0 hw [] r42 p0 T55.heap n0 Z68 f66) hZ (hw _ (List.mem_of_getElem? (i := 75) rfl)) (hw _ (List.mem_of_getElem? (i := 2) rfl)) (by decide) (by decide)) (g := (mkF m 62 #[.val (.int p0), .val (.int p1), .val (.int p2), .val (.ref r1), .val (.ref r3), .val (.ref r7), .val (.ref r42), .val (.ref r55), .unset, .unset, .unset] [(.int p0), (.ref r42)])) rfl (by rw [hml]; rfl) (argsL := [(.ref r42), (.int p0)]) (rest := []) (lenOf pd___BI_Z rfl) rfl (by show 2 * 0 + _ ≤ _; exact Nat.le_of_eq rfl) (hb hby at_62) (fun _ _ => ⟨rfl, rfl, (by decide : 11 + 0 ≤ _), (by decide : 250 + 0 ≤ _)⟩)
  dsimp only [Pt.U, Pt.locs, Pt.cells, Pt.slots] at X70 l70 y70 z70 st70 hQ70
  subst l70 y70 z70
  obtain ⟨rfl, N70q, e70⟩ := hQ70
  have N70 := Fr.app N55 N70q
  refine ogoW (fun t k => st70 t k) ?_
  show OwnEndsW _ _ _ _ _ _ _ (T70.setTop (mkF m 65 #[.val (.int p0), .val (.int p1), .val (.int p2), .val (.ref r1), .val (.ref r3), .val (.ref r7), .val (.ref r42), .val (.ref r55), .unset, .unset, .unset] [(.int (1 : Int32))]))
  refine ogoW (fun t k => XS.ifNo X70.here hx rfl (hb hby at_65) rfl ((if0 _ _).trans (feq (by decide : ¬ ((1 : Int32) = (0 : Int32)))).1) k) ?_
  show OwnEndsW _ _ _ _ _ _ _ (T70.setTop (mkF m 68 #[.val (.int p0), .val (.int p1), .val (.int p2), .val (.ref r1), .val (.ref r3), .val (.ref r7), .val (.ref r42), .val (.ref r55), .unset, .unset, .unset] []))
  refine ogoW (fun t k => XS.aload X70.here hx rfl (hb hby at_68) rfl rfl k) ?_
  show OwnEndsW _ _ _ _ _ _ _ (T70.setTop (mkF m 70 #[.val (.int p0), .val (.int p1), .val (.int p2), .val (.ref r1), .val (.ref r3), .val (.ref r7), .val (.ref r42), .val (.ref r55), .unset, .unset, .unset] [(.ref r55)]))
  refine ogoW (fun t k => XS.iloadN X70.here hx rfl (hb hby at_70) rfl k) ?_
  show OwnEndsW _ _ _ _ _ _ _ (T70.setTop (mkF m 71 #[.val (.int p0), .val (.int p1), .val (.int p2), .val (.ref r1), .val (.ref r3), .val (.ref r7), .val (.ref r42), .val (.ref r55), .unset, .unset, .unset] [(.int p1), (.ref r55)]))
  obtain ⟨v71, _, ⟨T71, L71, k71, n71⟩, -, X71, ⟨Lc71, hQ71, l71, y71, z71⟩, st71⟩ := Jvm.LawKit.callS X70 hx (y := (⟨"com/example/once_guard/onceguard/ClaimResultCompletedPinLaw", "matches", "([BI)Z"⟩ : MethodName)) hown (mvT hZ (hw _ (List.mem_of_getElem? (i := 73) rfl))) (mvT hZ (hw _ (List.mem_of_getElem? (i := 74) rfl))) (mvT hZ (hw _ (List.mem_of_getElem? (i := 2) rfl))) (mvT hZ (hw _ (List.mem_of_getElem? (i := 75) rfl))) (by decide) (backOf (W := 0) (rm4 l Z a0 hw [] r55 p1 T55.heap n0 Z68 Vq55) hZ (hw _ (List.mem_of_getElem? (i := 75) rfl)) (hw _ (List.mem_of_getElem? (i := 2) rfl)) (by decide) (by decide)) (g := (mkF m 71 #[.val (.int p0), .val (.int p1), .val (.int p2), .val (.ref r1), .val (.ref r3), .val (.ref r7), .val (.ref r42), .val (.ref r55), .unset, .unset, .unset] [(.int p1), (.ref r55)])) rfl (by rw [hml]; rfl) (argsL := [(.ref r55), (.int p1)]) (rest := []) (lenOf pd___BI_Z rfl) rfl (by show 2 * 0 + _ ≤ _; exact Nat.le_of_eq rfl) (hb hby at_71) (fun _ _ => ⟨rfl, e70, (by decide : 11 + 0 ≤ _), (by decide : 250 + 0 ≤ _)⟩)
  dsimp only [Pt.U, Pt.locs, Pt.cells, Pt.slots] at X71 l71 y71 z71 st71 hQ71
  subst l71 y71 z71
  obtain ⟨rfl, N71q, e71⟩ := hQ71
  have N71 := Fr.app N70 N71q
  refine ogoW (fun t k => st71 t k) ?_
  show OwnEndsW _ _ _ _ _ _ _ (T71.setTop (mkF m 74 #[.val (.int p0), .val (.int p1), .val (.int p2), .val (.ref r1), .val (.ref r3), .val (.ref r7), .val (.ref r42), .val (.ref r55), .unset, .unset, .unset] [(.int (1 : Int32))]))
  refine ogoW (fun t k => XS.ifNo X71.here hx rfl (hb hby at_74) rfl ((if0 _ _).trans (feq (by decide : ¬ ((1 : Int32) = (0 : Int32)))).1) k) ?_
  show OwnEndsW _ _ _ _ _ _ _ (T71.setTop (mkF m 77 #[.val (.int p0), .val (.int p1), .val (.int p2), .val (.ref r1), .val (.ref r3), .val (.ref r7), .val (.ref r42), .val (.ref r55), .unset, .unset, .unset] []))
  refine ogoW (fun t k => XS.iconst X71.here hx rfl (hb hby at_77) k) ?_
  show OwnEndsW _ _ _ _ _ _ _ (T71.setTop (mkF m 78 #[.val (.int p0), .val (.int p1), .val (.int p2), .val (.ref r1), .val (.ref r3), .val (.ref r7), .val (.ref r42), .val (.ref r55), .unset, .unset, .unset] [(.int (1 : Int32))]))
  refine ogoW (fun t k => XS.goto X71.here hx rfl (pc0 := 78) (pc' := 82) rfl (hb hby at_78) (by decide) (by decide) k) ?_
  show OwnEndsW _ _ _ _ _ _ _ (T71.setTop (mkF m 82 #[.val (.int p0), .val (.int p1), .val (.int p2), .val (.ref r1), .val (.ref r3), .val (.ref r7), .val (.ref r42), .val (.ref r55), .unset, .unset, .unset] [(.int (1 : Int32))]))
  refine ogoW (fun t k => XS.istore X71.here hx rfl (hb hby at_82) rfl (l' := #[.val (.int p0), .val (.int p1), .val (.int p2), .val (.ref r1), .val (.ref r3), .val (.ref r7), .val (.ref r42), .val (.ref r55), .val (.int (1 : Int32)), .unset, .unset]) rfl k) ?_
  show OwnEndsW _ _ _ _ _ _ _ (T71.setTop (mkF m 84 #[.val (.int p0), .val (.int p1), .val (.int p2), .val (.ref r1), .val (.ref r3), .val (.ref r7), .val (.ref r42), .val (.ref r55), .val (.int (1 : Int32)), .unset, .unset] []))
  refine ogoW (fun t k => XS.iload X71.here hx rfl (hb hby at_84) rfl k) ?_
  show OwnEndsW _ _ _ _ _ _ _ (T71.setTop (mkF m 86 #[.val (.int p0), .val (.int p1), .val (.int p2), .val (.ref r1), .val (.ref r3), .val (.ref r7), .val (.ref r42), .val (.ref r55), .val (.int (1 : Int32)), .unset, .unset] [(.int (1 : Int32))]))
  refine ogoW (fun t k => XS.ifYes X71.here hx rfl (pc0 := 86) (pc' := 91) rfl (hb hby at_86) rfl ((if0 _ _).trans (feq (by decide : ¬ ((1 : Int32) = (0 : Int32)))).2) (by decide) (by decide) k) ?_
  show OwnEndsW _ _ _ _ _ _ _ (T71.setTop (mkF m 91 #[.val (.int p0), .val (.int p1), .val (.int p2), .val (.ref r1), .val (.ref r3), .val (.ref r7), .val (.ref r42), .val (.ref r55), .val (.int (1 : Int32)), .unset, .unset] []))
  refine ogoW (fun t k => XS.aload X71.here hx rfl (hb hby at_91) rfl rfl k) ?_
  show OwnEndsW _ _ _ _ _ _ _ (T71.setTop (mkF m 93 #[.val (.int p0), .val (.int p1), .val (.int p2), .val (.ref r1), .val (.ref r3), .val (.ref r7), .val (.ref r42), .val (.ref r55), .val (.int (1 : Int32)), .unset, .unset] [(.ref r42)]))
  refine ogoW (fun t k => XS.iloadN X71.here hx rfl (hb hby at_93) rfl k) ?_
  show OwnEndsW _ _ _ _ _ _ _ (T71.setTop (mkF m 94 #[.val (.int p0), .val (.int p1), .val (.int p2), .val (.ref r1), .val (.ref r3), .val (.ref r7), .val (.ref r42), .val (.ref r55), .val (.int (1 : Int32)), .unset, .unset] [(.int p2), (.ref r42)]))
  refine ogoW (fun t k => XS.iconst X71.here hx rfl (hb hby at_94) k) ?_
  show OwnEndsW _ _ _ _ _ _ _ (T71.setTop (mkF m 95 #[.val (.int p0), .val (.int p1), .val (.int p2), .val (.ref r1), .val (.ref r3), .val (.ref r7), .val (.ref r42), .val (.ref r55), .val (.int (1 : Int32)), .unset, .unset] [(.int (4 : Int32)), (.int p2), (.ref r42)]))
  refine ogoW (fun t k => XS.iushr X71.here hx rfl (hb hby at_95) rfl k) ?_
  show OwnEndsW _ _ _ _ _ _ _ (T71.setTop (mkF m 96 #[.val (.int p0), .val (.int p1), .val (.int p2), .val (.ref r1), .val (.ref r3), .val (.ref r7), .val (.ref r42), .val (.ref r55), .val (.int (1 : Int32)), .unset, .unset] [(.int ((p2.toUInt32 >>> ((4 : Int32) &&& 31).toUInt32).toInt32)), (.ref r42)]))
  obtain ⟨v72, _, ⟨T72, L72, k72, n72⟩, -, X72, ⟨Lc72, hQ72, l72, y72, z72⟩, st72⟩ := Jvm.LawKit.callS X71 hx (y := (⟨"com/example/once_guard/onceguard/ClaimResultCompletedPinLaw", "spoil", "([BI)V"⟩ : MethodName)) hown (mvT hZ (hw _ (List.mem_of_getElem? (i := 52) rfl))) (mvT hZ (hw _ (List.mem_of_getElem? (i := 53) rfl))) (mvT hZ (hw _ (List.mem_of_getElem? (i := 2) rfl))) (mvT hZ (hw _ (List.mem_of_getElem? (i := 54) rfl))) (by decide) (backOf (W := 0) (rm3 l Z a0 hw [] r42 ((p2.toUInt32 >>> ((4 : Int32) &&& 31).toUInt32).toInt32) (own_len p0) (own_bs p0) T55.heap n0 Z68 OLD68 f66 (own_bs_int p0) q_r42) hZ (hw _ (List.mem_of_getElem? (i := 54) rfl)) (hw _ (List.mem_of_getElem? (i := 2) rfl)) (by decide) (by decide)) (g := (mkF m 96 #[.val (.int p0), .val (.int p1), .val (.int p2), .val (.ref r1), .val (.ref r3), .val (.ref r7), .val (.ref r42), .val (.ref r55), .val (.int (1 : Int32)), .unset, .unset] [(.int ((p2.toUInt32 >>> ((4 : Int32) &&& 31).toUInt32).toInt32)), (.ref r42)])) rfl (by rw [hml]; rfl) (argsL := [(.ref r42), (.int ((p2.toUInt32 >>> ((4 : Int32) &&& 31).toUInt32).toInt32))]) (rest := []) (lenOf pd___BI_V rfl) rfl (by show 2 * 0 + _ ≤ _; exact Nat.le_of_eq rfl) (hb hby at_96) (fun _ _ => ⟨rfl, e71, (by decide : 11 + 0 ≤ _), (by decide : 250 + 0 ≤ _)⟩)
  dsimp only [Pt.U, Pt.locs, Pt.cells, Pt.slots] at X72 l72 y72 z72 st72 hQ72
  subst l72 y72 z72
  obtain ⟨rfl, N72q, Kq72⟩ := hQ72
  have N72 := Fr.app N71 N72q
  have f73 := f56.keep Kq72
  have f74 := f57.keep Kq72
  have f75 := f58.keep Kq72
  have f76 := f59.keep Kq72 (ninS ne_r7_r42 nin0)
  have f77 := f60.keep Kq72 (ninS ne_r7_r42 nin0)
  have f78 := f61.keep Kq72 (ninS ne_r7_r42 nin0)
  have f79 := f62.keep Kq72 (ninS ne_x71_r42 nin0)
  have f80 := f63.keep Kq72 (ninS ne_x72_r42 nin0)
  have f81 := f64.keep Kq72
  have f82 := f65.keep Kq72
  have f83 := f67.keep Kq72
  have f84 := Vq55.keep Kq72 (ninS (Ne.symm ne_r42_r55) nin0)
  have f85 := Eq55.keep Kq72
  have OLD86 := OLD68.keep Kq72 (allS q_r42 all0)
  have K86 := K68.trans Kq72 (allS (Or.inr sz_r42) all0)
  have Z86 := Nat.le_trans Z68 Kq72.1
  have hk87 := Nat.le_trans hk69 Kq72.1
  refine ogoW (fun t k => st72 t k) ?_
  show OwnEndsW _ _ _ _ _ _ _ (T72.setTop (mkF m 99 #[.val (.int p0), .val (.int p1), .val (.int p2), .val (.ref r1), .val (.ref r3), .val (.ref r7), .val (.ref r42), .val (.ref r55), .val (.int (1 : Int32)), .unset, .unset] []))
  refine ogoW (fun t k => XS.aload X72.here hx rfl (hb hby at_99) rfl rfl k) ?_
  show OwnEndsW _ _ _ _ _ _ _ (T72.setTop (mkF m 101 #[.val (.int p0), .val (.int p1), .val (.int p2), .val (.ref r1), .val (.ref r3), .val (.ref r7), .val (.ref r42), .val (.ref r55), .val (.int (1 : Int32)), .unset, .unset] [(.ref r55)]))
  refine ogoW (fun t k => XS.iloadN X72.here hx rfl (hb hby at_101) rfl k) ?_
  show OwnEndsW _ _ _ _ _ _ _ (T72.setTop (mkF m 102 #[.val (.int p0), .val (.int p1), .val (.int p2), .val (.ref r1), .val (.ref r3), .val (.ref r7), .val (.ref r42), .val (.ref r55), .val (.int (1 : Int32)), .unset, .unset] [(.int p2), (.ref r55)]))
  refine ogoW (fun t k => XS.bipush X72.here hx rfl (hb hby at_102) k) ?_
  show OwnEndsW _ _ _ _ _ _ _ (T72.setTop (mkF m 104 #[.val (.int p0), .val (.int p1), .val (.int p2), .val (.ref r1), .val (.ref r3), .val (.ref r7), .val (.ref r42), .val (.ref r55), .val (.int (1 : Int32)), .unset, .unset] [(.int (6 : Int32)), (.int p2), (.ref r55)]))
  refine ogoW (fun t k => XS.iushr X72.here hx rfl (hb hby at_104) rfl k) ?_
  show OwnEndsW _ _ _ _ _ _ _ (T72.setTop (mkF m 105 #[.val (.int p0), .val (.int p1), .val (.int p2), .val (.ref r1), .val (.ref r3), .val (.ref r7), .val (.ref r42), .val (.ref r55), .val (.int (1 : Int32)), .unset, .unset] [(.int ((p2.toUInt32 >>> ((6 : Int32) &&& 31).toUInt32).toInt32)), (.ref r55)]))
  obtain ⟨v88, _, ⟨T88, L88, k88, n88⟩, -, X88, ⟨Lc88, hQ88, l88, y88, z88⟩, st88⟩ := Jvm.LawKit.callS X72 hx (y := (⟨"com/example/once_guard/onceguard/ClaimResultCompletedPinLaw", "spoil", "([BI)V"⟩ : MethodName)) hown (mvT hZ (hw _ (List.mem_of_getElem? (i := 52) rfl))) (mvT hZ (hw _ (List.mem_of_getElem? (i := 53) rfl))) (mvT hZ (hw _ (List.mem_of_getElem? (i := 2) rfl))) (mvT hZ (hw _ (List.mem_of_getElem? (i := 54) rfl))) (by decide) (backOf (W := 0) (rm3 l Z a0 hw [] r55 ((p2.toUInt32 >>> ((6 : Int32) &&& 31).toUInt32).toInt32) (own_len p1) (own_bs p1) T72.heap n0 Z86 OLD86 f84 (own_bs_int p1) q_r55) hZ (hw _ (List.mem_of_getElem? (i := 54) rfl)) (hw _ (List.mem_of_getElem? (i := 2) rfl)) (by decide) (by decide)) (g := (mkF m 105 #[.val (.int p0), .val (.int p1), .val (.int p2), .val (.ref r1), .val (.ref r3), .val (.ref r7), .val (.ref r42), .val (.ref r55), .val (.int (1 : Int32)), .unset, .unset] [(.int ((p2.toUInt32 >>> ((6 : Int32) &&& 31).toUInt32).toInt32)), (.ref r55)])) rfl (by rw [hml]; rfl) (argsL := [(.ref r55), (.int ((p2.toUInt32 >>> ((6 : Int32) &&& 31).toUInt32).toInt32))]) (rest := []) (lenOf pd___BI_V rfl) rfl (by show 2 * 0 + _ ≤ _; exact Nat.le_of_eq rfl) (hb hby at_105) (fun _ _ => ⟨rfl, rfl, (by decide : 11 + 0 ≤ _), (by decide : 250 + 0 ≤ _)⟩)
  dsimp only [Pt.U, Pt.locs, Pt.cells, Pt.slots] at X88 l88 y88 z88 st88 hQ88
  subst l88 y88 z88
  obtain ⟨rfl, N88q, Kq88⟩ := hQ88
  have N88 := Fr.app N72 N88q
  have f89 := f73.keep Kq88
  have f90 := f74.keep Kq88
  have f91 := f75.keep Kq88
  have f92 := f76.keep Kq88 (ninS ne_r7_r55 nin0)
  have f93 := f77.keep Kq88 (ninS ne_r7_r55 nin0)
  have f94 := f78.keep Kq88 (ninS ne_r7_r55 nin0)
  have f95 := f79.keep Kq88 (ninS ne_x71_r55 nin0)
  have f96 := f80.keep Kq88 (ninS ne_x72_r55 nin0)
  have f97 := f81.keep Kq88
  have f98 := f82.keep Kq88
  have f99 := f83.keep Kq88
  have f100 := f85.keep Kq88
  have OLD101 := OLD86.keep Kq88 (allS q_r55 all0)
  have K101 := K86.trans Kq88 (allS (Or.inr sz_r55) all0)
  have Z101 := Nat.le_trans Z86 Kq88.1
  have hk102 := Nat.le_trans hk87 Kq88.1
  refine ogoW (fun t k => st88 t k) ?_
  show OwnEndsW _ _ _ _ _ _ _ (T88.setTop (mkF m 108 #[.val (.int p0), .val (.int p1), .val (.int p2), .val (.ref r1), .val (.ref r3), .val (.ref r7), .val (.ref r42), .val (.ref r55), .val (.int (1 : Int32)), .unset, .unset] []))
  refine ogoW (fun t k => XS.aload X88.here hx rfl (hb hby at_108) rfl rfl k) ?_
  show OwnEndsW _ _ _ _ _ _ _ (T88.setTop (mkF m 110 #[.val (.int p0), .val (.int p1), .val (.int p2), .val (.ref r1), .val (.ref r3), .val (.ref r7), .val (.ref r42), .val (.ref r55), .val (.int (1 : Int32)), .unset, .unset] [(.ref r7)]))
  obtain ⟨cq103, kq103, q103a, q103b, q103c⟩ := isOf hZ rfl f91
  obtain ⟨v103, _, ⟨T103, L103, k103, n103⟩, -, X103, ⟨Lc103, hQ103, l103, y103, z103⟩, st103⟩ := X88.virtualBack hx (y := (⟨"com/example/once_guard/onceguard/ClaimResult", "payloadDigest", "()[B"⟩ : MethodName)) (z := (⟨"com/example/once_guard/onceguard/ClaimResult", "payloadDigest", "()[B"⟩ : MethodName)) hown (mvT hZ (hw _ (List.mem_of_getElem? (i := 61) rfl))) (mvT hZ (hw _ (List.mem_of_getElem? (i := 62) rfl))) (notFace_of_selects (args := #[]) (mvT hZ (hw _ (List.mem_of_getElem? (i := 64) rfl)))) (mvT hZ (hw _ (List.mem_of_getElem? (i := 64) rfl))) (mvT hZ (hw _ (List.mem_of_getElem? (i := 63) rfl))) (by decide) (backOf (W := 0) (rm8 l Z a0 hw [] r7 x71 (own_len p0) (own_bs p0) w_COMPLETED w_CLAIMED T88.heap n0 Z101 OLD101 S_CLAIMED f92 f93 f95 f97 (own_len_cap _) (Fld.ne F_ordinal_COMPLETED F_ordinal_CLAIMED (by simp))) hZ (hw _ (List.mem_of_getElem? (i := 65) rfl)) (hw _ (List.mem_of_getElem? (i := 10) rfl)) (by decide) (by decide)) q103a q103c (g := (mkF m 110 #[.val (.int p0), .val (.int p1), .val (.int p2), .val (.ref r1), .val (.ref r3), .val (.ref r7), .val (.ref r42), .val (.ref r55), .val (.int (1 : Int32)), .unset, .unset] [(.ref r7)])) rfl (by rw [hml]; rfl) (Steps.refl _) (argsL := []) (rest := []) (lenOf pd____B rfl) rfl (by show 2 * 0 + _ ≤ _; exact Nat.le_of_eq rfl) (hb hby at_110) (fun _ _ => ⟨rfl, rfl, (by decide : 11 + 1 ≤ _), (by decide : 250 + 4 ≤ _)⟩)
  dsimp only [Pt.U, Pt.locs, Pt.cells, Pt.slots] at X103 l103 y103 z103 st103 hQ103
  subst l103 y103 z103
  obtain ⟨r103, rfl, Sq103, N103q, Kq103, Vq103, Eq103⟩ := hQ103
  have N103 := Fr.app N88 N103q
  have ne_r1_r103 : r1 ≠ r103 := Nat.ne_of_lt (Nat.lt_of_lt_of_le (f89).lt Sq103)
  have ne_r3_r103 : r3 ≠ r103 := Nat.ne_of_lt (Nat.lt_of_lt_of_le (f90).lt Sq103)
  have ne_r7_r103 : r7 ≠ r103 := Nat.ne_of_lt (Nat.lt_of_lt_of_le (f91).lt Sq103)
  have ne_x71_r103 : x71 ≠ r103 := Nat.ne_of_lt (Nat.lt_of_lt_of_le (f95).lt Sq103)
  have ne_x72_r103 : x72 ≠ r103 := Nat.ne_of_lt (Nat.lt_of_lt_of_le (f96).lt Sq103)
  have ne_r42_r103 : r42 ≠ r103 := Nat.ne_of_lt (Nat.lt_of_lt_of_le (f99).lt Sq103)
  have ne_r55_r103 : r55 ≠ r103 := Nat.ne_of_lt (Nat.lt_of_lt_of_le (f100).lt Sq103)
  have q_r103 : n0 ≤ r103 := Nat.le_trans Z101 Sq103
  have sz_r103 : h0.size ≤ r103 := Nat.le_trans K101.1 Sq103
  have f104 := f89.keep Kq103
  have f105 := f90.keep Kq103
  have f106 := f91.keep Kq103
  have f107 := f92.keep Kq103 nin0
  have f108 := f93.keep Kq103 nin0
  have f109 := f94.keep Kq103 nin0
  have f110 := f95.keep Kq103 nin0
  have f111 := f96.keep Kq103 nin0
  have f112 := f97.keep Kq103
  have f113 := f98.keep Kq103
  have f114 := f99.keep Kq103
  have f115 := f100.keep Kq103
  have OLD116 := OLD101.keep Kq103 all0
  have K116 := K101.trans Kq103 all0
  have Z116 := Nat.le_trans Z101 Kq103.1
  have hk117 := Nat.le_trans hk102 Kq103.1
  refine ogoW (fun t k => st103.trans k) ?_
  show OwnEndsW _ _ _ _ _ _ _ (T103.setTop (mkF m 113 #[.val (.int p0), .val (.int p1), .val (.int p2), .val (.ref r1), .val (.ref r3), .val (.ref r7), .val (.ref r42), .val (.ref r55), .val (.int (1 : Int32)), .unset, .unset] [(.ref r103)]))
  refine ogoW (fun t k => XS.astore X103.here hx rfl (hb hby at_113) rfl rfl (l' := #[.val (.int p0), .val (.int p1), .val (.int p2), .val (.ref r1), .val (.ref r3), .val (.ref r7), .val (.ref r42), .val (.ref r55), .val (.int (1 : Int32)), .val (.ref r103), .unset]) rfl k) ?_
  show OwnEndsW _ _ _ _ _ _ _ (T103.setTop (mkF m 115 #[.val (.int p0), .val (.int p1), .val (.int p2), .val (.ref r1), .val (.ref r3), .val (.ref r7), .val (.ref r42), .val (.ref r55), .val (.int (1 : Int32)), .val (.ref r103), .unset] []))
  refine ogoW (fun t k => XS.aload X103.here hx rfl (hb hby at_115) rfl rfl k) ?_
  show OwnEndsW _ _ _ _ _ _ _ (T103.setTop (mkF m 117 #[.val (.int p0), .val (.int p1), .val (.int p2), .val (.ref r1), .val (.ref r3), .val (.ref r7), .val (.ref r42), .val (.ref r55), .val (.int (1 : Int32)), .val (.ref r103), .unset] [(.ref r7)]))
  obtain ⟨cq118, kq118, q118a, q118b, q118c⟩ := isOf hZ rfl f106
  obtain ⟨v118, _, ⟨T118, L118, k118, n118⟩, -, X118, ⟨Lc118, hQ118, l118, y118, z118⟩, st118⟩ := X103.virtualBack hx (y := (⟨"com/example/once_guard/onceguard/ClaimResult", "outcome", "()[B"⟩ : MethodName)) (z := (⟨"com/example/once_guard/onceguard/ClaimResult", "outcome", "()[B"⟩ : MethodName)) hown (mvT hZ (hw _ (List.mem_of_getElem? (i := 68) rfl))) (mvT hZ (hw _ (List.mem_of_getElem? (i := 69) rfl))) (notFace_of_selects (args := #[]) (mvT hZ (hw _ (List.mem_of_getElem? (i := 71) rfl)))) (mvT hZ (hw _ (List.mem_of_getElem? (i := 71) rfl))) (mvT hZ (hw _ (List.mem_of_getElem? (i := 70) rfl))) (by decide) (backOf (W := 0) (rm9 l Z a0 hw [] r7 x72 (own_len p1) (own_bs p1) w_COMPLETED T103.heap n0 Z116 OLD116 S_COMPLETED f107 f109 f111 f113 (own_len_cap _)) hZ (hw _ (List.mem_of_getElem? (i := 72) rfl)) (hw _ (List.mem_of_getElem? (i := 10) rfl)) (by decide) (by decide)) q118a q118c (g := (mkF m 117 #[.val (.int p0), .val (.int p1), .val (.int p2), .val (.ref r1), .val (.ref r3), .val (.ref r7), .val (.ref r42), .val (.ref r55), .val (.int (1 : Int32)), .val (.ref r103), .unset] [(.ref r7)])) rfl (by rw [hml]; rfl) (Steps.refl _) (argsL := []) (rest := []) (lenOf pd____B rfl) rfl (by show 2 * 0 + _ ≤ _; exact Nat.le_of_eq rfl) (hb hby at_117) (fun _ _ => ⟨rfl, rfl, (by decide : 12 + 1 ≤ _), (by decide : 254 + 4 ≤ _)⟩)
  dsimp only [Pt.U, Pt.locs, Pt.cells, Pt.slots] at X118 l118 y118 z118 st118 hQ118
  subst l118 y118 z118
  obtain ⟨r118, rfl, Sq118, N118q, Kq118, Vq118, Eq118⟩ := hQ118
  have N118 := Fr.app N103 N118q
  have ne_r1_r118 : r1 ≠ r118 := Nat.ne_of_lt (Nat.lt_of_lt_of_le (f104).lt Sq118)
  have ne_r3_r118 : r3 ≠ r118 := Nat.ne_of_lt (Nat.lt_of_lt_of_le (f105).lt Sq118)
  have ne_r7_r118 : r7 ≠ r118 := Nat.ne_of_lt (Nat.lt_of_lt_of_le (f106).lt Sq118)
  have ne_x71_r118 : x71 ≠ r118 := Nat.ne_of_lt (Nat.lt_of_lt_of_le (f110).lt Sq118)
  have ne_x72_r118 : x72 ≠ r118 := Nat.ne_of_lt (Nat.lt_of_lt_of_le (f111).lt Sq118)
  have ne_r42_r118 : r42 ≠ r118 := Nat.ne_of_lt (Nat.lt_of_lt_of_le (f114).lt Sq118)
  have ne_r55_r118 : r55 ≠ r118 := Nat.ne_of_lt (Nat.lt_of_lt_of_le (f115).lt Sq118)
  have ne_r103_r118 : r103 ≠ r118 := Nat.ne_of_lt (Nat.lt_of_lt_of_le (Vq103).lt Sq118)
  have q_r118 : n0 ≤ r118 := Nat.le_trans Z116 Sq118
  have sz_r118 : h0.size ≤ r118 := Nat.le_trans K116.1 Sq118
  have f119 := f104.keep Kq118
  have f120 := f105.keep Kq118
  have f121 := f106.keep Kq118
  have f122 := f107.keep Kq118 nin0
  have f123 := f108.keep Kq118 nin0
  have f124 := f109.keep Kq118 nin0
  have f125 := f110.keep Kq118 nin0
  have f126 := f111.keep Kq118 nin0
  have f127 := f112.keep Kq118
  have f128 := f113.keep Kq118
  have f129 := f114.keep Kq118
  have f130 := f115.keep Kq118
  have f131 := Vq103.keep Kq118 nin0
  have f132 := Eq103.keep Kq118
  have OLD133 := OLD116.keep Kq118 all0
  have K133 := K116.trans Kq118 all0
  have Z133 := Nat.le_trans Z116 Kq118.1
  have hk134 := Nat.le_trans hk117 Kq118.1
  refine ogoW (fun t k => st118.trans k) ?_
  show OwnEndsW _ _ _ _ _ _ _ (T118.setTop (mkF m 120 #[.val (.int p0), .val (.int p1), .val (.int p2), .val (.ref r1), .val (.ref r3), .val (.ref r7), .val (.ref r42), .val (.ref r55), .val (.int (1 : Int32)), .val (.ref r103), .unset] [(.ref r118)]))
  refine ogoW (fun t k => XS.astore X118.here hx rfl (hb hby at_120) rfl rfl (l' := #[.val (.int p0), .val (.int p1), .val (.int p2), .val (.ref r1), .val (.ref r3), .val (.ref r7), .val (.ref r42), .val (.ref r55), .val (.int (1 : Int32)), .val (.ref r103), .val (.ref r118)]) rfl k) ?_
  show OwnEndsW _ _ _ _ _ _ _ (T118.setTop (mkF m 122 #[.val (.int p0), .val (.int p1), .val (.int p2), .val (.ref r1), .val (.ref r3), .val (.ref r7), .val (.ref r42), .val (.ref r55), .val (.int (1 : Int32)), .val (.ref r103), .val (.ref r118)] []))
  refine ogoW (fun t k => XS.aload X118.here hx rfl (hb hby at_122) rfl rfl k) ?_
  show OwnEndsW _ _ _ _ _ _ _ (T118.setTop (mkF m 124 #[.val (.int p0), .val (.int p1), .val (.int p2), .val (.ref r1), .val (.ref r3), .val (.ref r7), .val (.ref r42), .val (.ref r55), .val (.int (1 : Int32)), .val (.ref r103), .val (.ref r118)] [(.ref r103)]))
  refine ogoW (fun t k => XS.iloadN X118.here hx rfl (hb hby at_124) rfl k) ?_
  show OwnEndsW _ _ _ _ _ _ _ (T118.setTop (mkF m 125 #[.val (.int p0), .val (.int p1), .val (.int p2), .val (.ref r1), .val (.ref r3), .val (.ref r7), .val (.ref r42), .val (.ref r55), .val (.int (1 : Int32)), .val (.ref r103), .val (.ref r118)] [(.int p0), (.ref r103)]))
  obtain ⟨v135, _, ⟨T135, L135, k135, n135⟩, -, X135, ⟨Lc135, hQ135, l135, y135, z135⟩, st135⟩ := Jvm.LawKit.callS X118 hx (y := (⟨"com/example/once_guard/onceguard/ClaimResultCompletedPinLaw", "matches", "([BI)Z"⟩ : MethodName)) hown (mvT hZ (hw _ (List.mem_of_getElem? (i := 73) rfl))) (mvT hZ (hw _ (List.mem_of_getElem? (i := 74) rfl))) (mvT hZ (hw _ (List.mem_of_getElem? (i := 2) rfl))) (mvT hZ (hw _ (List.mem_of_getElem? (i := 75) rfl))) (by decide) (backOf (W := 0) (rm4 l Z a0 hw [] r103 p0 T118.heap n0 Z133 f131) hZ (hw _ (List.mem_of_getElem? (i := 75) rfl)) (hw _ (List.mem_of_getElem? (i := 2) rfl)) (by decide) (by decide)) (g := (mkF m 125 #[.val (.int p0), .val (.int p1), .val (.int p2), .val (.ref r1), .val (.ref r3), .val (.ref r7), .val (.ref r42), .val (.ref r55), .val (.int (1 : Int32)), .val (.ref r103), .val (.ref r118)] [(.int p0), (.ref r103)])) rfl (by rw [hml]; rfl) (argsL := [(.ref r103), (.int p0)]) (rest := []) (lenOf pd___BI_Z rfl) rfl (by show 2 * 0 + _ ≤ _; exact Nat.le_of_eq rfl) (hb hby at_125) (fun _ _ => ⟨rfl, rfl, (by decide : 13 + 0 ≤ _), (by decide : 258 + 0 ≤ _)⟩)
  dsimp only [Pt.U, Pt.locs, Pt.cells, Pt.slots] at X135 l135 y135 z135 st135 hQ135
  subst l135 y135 z135
  obtain ⟨rfl, N135q, e135⟩ := hQ135
  have N135 := Fr.app N118 N135q
  refine ogoW (fun t k => st135 t k) ?_
  show OwnEndsW _ _ _ _ _ _ _ (T135.setTop (mkF m 128 #[.val (.int p0), .val (.int p1), .val (.int p2), .val (.ref r1), .val (.ref r3), .val (.ref r7), .val (.ref r42), .val (.ref r55), .val (.int (1 : Int32)), .val (.ref r103), .val (.ref r118)] [(.int (1 : Int32))]))
  refine ogoW (fun t k => XS.ifNo X135.here hx rfl (hb hby at_128) rfl ((if0 _ _).trans (feq (by decide : ¬ ((1 : Int32) = (0 : Int32)))).1) k) ?_
  show OwnEndsW _ _ _ _ _ _ _ (T135.setTop (mkF m 131 #[.val (.int p0), .val (.int p1), .val (.int p2), .val (.ref r1), .val (.ref r3), .val (.ref r7), .val (.ref r42), .val (.ref r55), .val (.int (1 : Int32)), .val (.ref r103), .val (.ref r118)] []))
  refine ogoW (fun t k => XS.aload X135.here hx rfl (hb hby at_131) rfl rfl k) ?_
  show OwnEndsW _ _ _ _ _ _ _ (T135.setTop (mkF m 133 #[.val (.int p0), .val (.int p1), .val (.int p2), .val (.ref r1), .val (.ref r3), .val (.ref r7), .val (.ref r42), .val (.ref r55), .val (.int (1 : Int32)), .val (.ref r103), .val (.ref r118)] [(.ref r118)]))
  refine ogoW (fun t k => XS.iloadN X135.here hx rfl (hb hby at_133) rfl k) ?_
  show OwnEndsW _ _ _ _ _ _ _ (T135.setTop (mkF m 134 #[.val (.int p0), .val (.int p1), .val (.int p2), .val (.ref r1), .val (.ref r3), .val (.ref r7), .val (.ref r42), .val (.ref r55), .val (.int (1 : Int32)), .val (.ref r103), .val (.ref r118)] [(.int p1), (.ref r118)]))
  obtain ⟨v136, _, ⟨T136, L136, k136, n136⟩, -, X136, ⟨Lc136, hQ136, l136, y136, z136⟩, st136⟩ := Jvm.LawKit.callS X135 hx (y := (⟨"com/example/once_guard/onceguard/ClaimResultCompletedPinLaw", "matches", "([BI)Z"⟩ : MethodName)) hown (mvT hZ (hw _ (List.mem_of_getElem? (i := 73) rfl))) (mvT hZ (hw _ (List.mem_of_getElem? (i := 74) rfl))) (mvT hZ (hw _ (List.mem_of_getElem? (i := 2) rfl))) (mvT hZ (hw _ (List.mem_of_getElem? (i := 75) rfl))) (by decide) (backOf (W := 0) (rm4 l Z a0 hw [] r118 p1 T118.heap n0 Z133 Vq118) hZ (hw _ (List.mem_of_getElem? (i := 75) rfl)) (hw _ (List.mem_of_getElem? (i := 2) rfl)) (by decide) (by decide)) (g := (mkF m 134 #[.val (.int p0), .val (.int p1), .val (.int p2), .val (.ref r1), .val (.ref r3), .val (.ref r7), .val (.ref r42), .val (.ref r55), .val (.int (1 : Int32)), .val (.ref r103), .val (.ref r118)] [(.int p1), (.ref r118)])) rfl (by rw [hml]; rfl) (argsL := [(.ref r118), (.int p1)]) (rest := []) (lenOf pd___BI_Z rfl) rfl (by show 2 * 0 + _ ≤ _; exact Nat.le_of_eq rfl) (hb hby at_134) (fun _ _ => ⟨rfl, e135, (by decide : 13 + 0 ≤ _), (by decide : 258 + 0 ≤ _)⟩)
  dsimp only [Pt.U, Pt.locs, Pt.cells, Pt.slots] at X136 l136 y136 z136 st136 hQ136
  subst l136 y136 z136
  obtain ⟨rfl, N136q, e136⟩ := hQ136
  have N136 := Fr.app N135 N136q
  refine ogoW (fun t k => st136 t k) ?_
  show OwnEndsW _ _ _ _ _ _ _ (T136.setTop (mkF m 137 #[.val (.int p0), .val (.int p1), .val (.int p2), .val (.ref r1), .val (.ref r3), .val (.ref r7), .val (.ref r42), .val (.ref r55), .val (.int (1 : Int32)), .val (.ref r103), .val (.ref r118)] [(.int (1 : Int32))]))
  refine ogoW (fun t k => XS.ifNo X136.here hx rfl (hb hby at_137) rfl ((if0 _ _).trans (feq (by decide : ¬ ((1 : Int32) = (0 : Int32)))).1) k) ?_
  show OwnEndsW _ _ _ _ _ _ _ (T136.setTop (mkF m 140 #[.val (.int p0), .val (.int p1), .val (.int p2), .val (.ref r1), .val (.ref r3), .val (.ref r7), .val (.ref r42), .val (.ref r55), .val (.int (1 : Int32)), .val (.ref r103), .val (.ref r118)] []))
  refine ogoW (fun t k => XS.iconst X136.here hx rfl (hb hby at_140) k) ?_
  show OwnEndsW _ _ _ _ _ _ _ (T136.setTop (mkF m 141 #[.val (.int p0), .val (.int p1), .val (.int p2), .val (.ref r1), .val (.ref r3), .val (.ref r7), .val (.ref r42), .val (.ref r55), .val (.int (1 : Int32)), .val (.ref r103), .val (.ref r118)] [(.int (1 : Int32))]))
  refine ogoW (fun t k => XS.goto X136.here hx rfl (pc0 := 141) (pc' := 145) rfl (hb hby at_141) (by decide) (by decide) k) ?_
  show OwnEndsW _ _ _ _ _ _ _ (T136.setTop (mkF m 145 #[.val (.int p0), .val (.int p1), .val (.int p2), .val (.ref r1), .val (.ref r3), .val (.ref r7), .val (.ref r42), .val (.ref r55), .val (.int (1 : Int32)), .val (.ref r103), .val (.ref r118)] [(.int (1 : Int32))]))
  refine endZW X136 hS7 (by rw [e136]; exact hk134) hx hlk hret rfl (hb hby at_145) (by decide) (by decide) ?_
  show Q0 Z p0 p1 p2 w_COMPLETED w_CLAIMED h0 n0 _ T136.heap _
  rw [e136]
  exact ⟨rfl, N136⟩
set_option maxRecDepth 65536 in
set_option maxHeartbeats 40000000 in
theorem comes_1 {Post : Tables → Env → Array Value → State → Outcome → State → Prop} (hpost : ∀ tb e args s v u, (limb_1_1.after args s (.returned v) u = true ∧ limb_1_2.after args s (.returned v) u = true ∧ True) → ReturnedEndW s (.returned v) u (Jvm.fieldLocs frame_1_writes args s ++ Jvm.arrayLocs frame_1_arrays args s ++ Jvm.staticLocs frame_1_statics s) 32 2176 → Post tb e args s (.returned v) u) :
    ArmFor flags0 classFile x code maxLocals ret World_1 tables_1 room_1 Calls_1 rest_1 Pre_1 Post := by
  intro l hfl _ _ p e ha hc hk s m args below hf hA hF happ hP
  obtain ⟨hcalls, hrest, hpre⟩ := hP
  obtain ⟨-, -, -, hnamed, -, -, -, hat⟩ := (Spec.applies_iff hf).mp happ
  obtain ⟨hg, hn⟩ := and_e (Cond.before_iff.mp (show (Jvm.Cond.and given_1 narrow_1).before args s = true from hpre))
  obtain ⟨hcount, hg0⟩ := and_e hg
  obtain ⟨hk0, hg1⟩ := and_e hg0
  obtain ⟨hk1, hg2⟩ := and_e hg1
  have hk2 := hg2
  obtain ⟨w0, w1, w2, rfl⟩ : ∃ w0 w1 w2 : Value, args = #[w0, w1, w2] := by
    have hs : args.size = 3 := by simpa [Cond.value, given_1] using hcount
    obtain ⟨L⟩ := args
    match L, hs with
    | [w0, w1, w2], _ => exact ⟨w0, w1, w2, rfl⟩
  have hw := fun d (hd : d ∈ tables_1) => atoms_spec (ws := Jvm.Cond.code x code maxLocals ret :: tables_1) hat d (List.mem_cons_of_mem _ hd)
  have hfit : Fit s := fun {y c} hc i hi => by
    obtain ⟨ha, rfl⟩ := Array.getElem?_eq_some_iff.mp hc
    have q := List.all_eq_true.mp ((Array.all_eq_true_iff_forall_mem.mp hF) _ (Array.getElem_mem ha)) i (List.mem_range.mpr hi)
    simpa [Array.getElem?_eq_getElem hi] using q
  obtain ⟨i0, ei0⟩ := is_v hk0
  obtain rfl : w0 = (.int i0) := Option.some.inj ei0
  obtain ⟨i1, ei1⟩ := is_v hk1
  obtain rfl : w1 = (.int i1) := Option.some.inj ei1
  obtain ⟨i2, ei2⟩ := is_v hk2
  obtain rfl : w2 = (.int i2) := Option.some.inj ei2
  obtain ⟨u1a, u1b⟩ := and_e hn
  obtain ⟨u2a, u2b⟩ := and_e u1b
  obtain ⟨u3a, u3b⟩ := and_e u2b
  obtain ⟨w_COMPLETED, ev_COMPLETED⟩ := exa_v u1a
  have S_COMPLETED : Sta s s.heap "com/example/once_guard/onceguard/ClaimResult$State" "COMPLETED" "Lcom/example/once_guard/onceguard/ClaimResult$State;" (.ref w_COMPLETED) := Sta.start ev_COMPLETED (Or.inr ⟨(hw _ (List.mem_of_getElem? (i := 27) rfl)), (hw _ (List.mem_of_getElem? (i := 28) rfl))⟩)
  have E_COMPLETED : Exa s s.heap w_COMPLETED "com/example/once_guard/onceguard/ClaimResult$State" := Exa.start ev_COMPLETED u1a
  obtain ⟨w_CLAIMED, ev_CLAIMED⟩ := exa_v u2a
  have S_CLAIMED : Sta s s.heap "com/example/once_guard/onceguard/ClaimResult$State" "CLAIMED" "Lcom/example/once_guard/onceguard/ClaimResult$State;" (.ref w_CLAIMED) := Sta.start ev_CLAIMED (Or.inr ⟨(hw _ (List.mem_of_getElem? (i := 27) rfl)), (hw _ (List.mem_of_getElem? (i := 67) rfl))⟩)
  have E_CLAIMED : Exa s s.heap w_CLAIMED "com/example/once_guard/onceguard/ClaimResult$State" := Exa.start ev_CLAIMED u2a
  have F_ordinal_COMPLETED : Fld s s.heap w_COMPLETED "java/lang/Enum" "ordinal" "I" (.int (2 : Int32)) := own_fld u3a ev_COMPLETED
  have F_ordinal_CLAIMED : Fld s s.heap w_CLAIMED "java/lang/Enum" "ordinal" "I" (.int (0 : Int32)) := own_fld u3b ev_CLAIMED
  obtain ⟨n, o, h1, h2, h3, _, L, rfl, ⟨rfl, N⟩, hq⟩ := rm0 l s _ hw tables_1 i0 i1 i2 w_COMPLETED w_CLAIMED s.heap s.heap.size (Nat.le_refl _) (Old.start s) S_COMPLETED E_COMPLETED F_ordinal_COMPLETED S_CLAIMED E_CLAIMED F_ordinal_CLAIMED p e ha hc hk s m _ below hf ((Spec.applies_iff_loose hf).mp happ).1 ⟨rfl, State.Warmed39.refl s, rfl⟩ trivial
  refine ⟨n, _, h1, h2, h3, hpost _ _ _ _ _ _ ⟨Cond.after_iff.mpr rfl, Cond.after_iff.mpr (eq_i res_at (Term.int_eval (1)) rfl), trivial⟩ ⟨hq.1, hq.2.1, hq.2.2.1, (hq.2.2.2.sift fun y hy => Or.inr (N y hy)).mono (by decide) (by decide)⟩⟩
theorem main_1_1 : Claimed_1_1 := comes_1 fun _ _ _ _ _ _ h hF => ⟨h.1, hF⟩
theorem main_1_2 : Claimed_1_2 := comes_1 fun _ _ _ _ _ _ h hF => ⟨h.2.1, hF⟩
end Jvm.Pilot.@@N@@
namespace Jvm.Pilot.@@N@@
open Jvm Jvm.ClassFile Sem Op Lib Jvm.Free Jvm.Stand Jvm.Pilot.@@N@@.Jvm.D
/-! MADE BY PROGRAM (witnessworld.py) out of the Statement's table words and the real class files: 17 classes; the members and pool entries that the words name. The judged class is class 1, her method 1. -/
namespace start1
open Jvm.ClassFile
def u (s : String) : CpInfo := .utf8 (stringToUtf16 s)
/-- a pool by its gaps: so many unusable entries, then the entry; so many at the end -/
def gap : Nat → List CpInfo → List CpInfo
  | 0, r => r
  | n + 1, r => .unusable :: gap n r
def poolList (es : List (Nat × CpInfo)) (last : Nat) : List CpInfo := es.foldr (fun e r => gap e.1 (e.2 :: r)) (gap last [])
def pool (es : List (Nat × CpInfo)) (last : Nat) : Array CpInfo := ⟨poolList es last⟩
def fileOf (pool : Array CpInfo) (this : Nat) (attrs : Array Attribute := #[]) (ms : Array MethodInfo := #[]) (fl : Nat := 33) (sup : Nat := 0) (ifs : Array Nat := #[]) (fds : Array FieldInfo := #[]) : ClassFile where
  minorVersion := 0
  majorVersion := 65
  constantPool := pool
  accessFlags := fl
  thisClass := this
  superClass := sup
  interfaces := ifs
  fields := fds
  methods := ms
  attributes := attrs
def plain (name : String) (sup : Option ClassId) : Class where
  name := name
  kind := .ordinary
  loader := none
  accessFlags := 33
  super := sup
  interfaces := #[]
  cf := none
  fields := #[]
  methods := #[]
  instanceTypes := #[]
  staticTypes := #[]
  resolved := #[]
  callSites := []
  init := .initialized
  statics := none
  mirror := none

def pool0 : Array CpInfo := pool [(5, u "<init>"), (0, u "()V"), (1, .class_ 10), (1, u "java/lang/Object"), (85, u "clone"), (0, u "()Ljava/lang/Object;")] 26

def k0c0 : Code := { maxStack := 0, maxLocals := 1, code := object_method_1_code, exceptionTable := #[], attributes := #[] }
def k0m0 : Method := { name := "<init>", desc := "()V", sig := { parameters := [], returnType := none }, accessFlags := 1, code := some k0c0 }
def k0m1 : Method := { name := "clone", desc := "()Ljava/lang/Object;", sig := { parameters := [], returnType := some (.object "java/lang/Object") }, accessFlags := 260, code := none }
/-- java/lang/Object -/
def k0 : Class := { plain "java/lang/Object" none with
  accessFlags := 33
  interfaces := #[]
  cf := some (fileOf pool0 8 #[] #[{ accessFlags := 1, nameIndex := 5, descriptorIndex := 6, attributes := #[] }, { accessFlags := 260, nameIndex := 96, descriptorIndex := 97, attributes := #[] }] 33 0 #[] #[])
  fields := #[]
  methods := #[k0m0, k0m1]
  instanceTypes := #[]
  staticTypes := #[]
  resolved := Array.replicate 124 none
  statics := none }

def pool1 : Array CpInfo := pool [(2, .class_ 4), (1, u "java/lang/Object"), (0, u "<init>"), (0, u "()V"), (0, .methodref 8 9), (0, .class_ 10), (0, .nameAndType 11 12), (0, u "com/example/once_guard/onceguard/ClaimResultCompletedPinLaw"), (0, u "make"), (0, u "(I)[B"), (0, .methodref 14 15), (0, .class_ 16), (0, .nameAndType 17 18), (0, u "com/example/once_guard/onceguard/ClaimResult"), (0, u "completed"), (0, u "([B[B)Lcom/example/once_guard/onceguard/ClaimResult;"), (0, .methodref 8 20), (0, .nameAndType 21 22), (0, u "spoil"), (0, u "([BI)V"), (0, .methodref 14 24), (0, .nameAndType 25 26), (0, u "state"), (0, u "()Lcom/example/once_guard/onceguard/ClaimResult$State;"), (0, .fieldref 28 29), (0, .class_ 30), (0, .nameAndType 31 32), (0, u "com/example/once_guard/onceguard/ClaimResult$State"), (0, u "COMPLETED"), (0, u "Lcom/example/once_guard/onceguard/ClaimResult$State;"), (0, .methodref 14 34), (0, .nameAndType 35 36), (0, u "payloadDigest"), (0, u "()[B"), (0, .methodref 14 38), (0, .nameAndType 39 36), (0, u "outcome"), (0, .methodref 8 41), (0, .nameAndType 42 43), (0, u "matches"), (0, u "([BI)Z"), (0, .methodref 8 45), (0, .nameAndType 46 47), (0, u "len"), (0, u "(I)I"), (2, u "law"), (0, u "(III)Z")] 7

def k1m0 : Method := { name := "<init>", desc := "()V", sig := { parameters := [], returnType := none }, accessFlags := 1, code := none }
def k1c1 : Code := { maxStack := 3, maxLocals := 11, code := code, exceptionTable := #[], attributes := #[] }
def k1m1 : Method := { name := "law", desc := "(III)Z", sig := { parameters := [.int, .int, .int], returnType := some .boolean }, accessFlags := 9, code := some k1c1 }
def k1c2 : Code := { maxStack := 2, maxLocals := 1, code := method_3_code, exceptionTable := #[], attributes := #[] }
def k1m2 : Method := { name := "len", desc := "(I)I", sig := { parameters := [.int], returnType := some .int }, accessFlags := 10, code := some k1c2 }
def k1c3 : Code := { maxStack := 4, maxLocals := 3, code := method_4_code, exceptionTable := #[], attributes := #[] }
def k1m3 : Method := { name := "make", desc := "(I)[B", sig := { parameters := [.int], returnType := some (.array .byte) }, accessFlags := 10, code := some k1c3 }
def k1c4 : Code := { maxStack := 4, maxLocals := 3, code := method_5_code, exceptionTable := #[], attributes := #[] }
def k1m4 : Method := { name := "spoil", desc := "([BI)V", sig := { parameters := [(.array .byte), .int], returnType := none }, accessFlags := 10, code := some k1c4 }
def k1c5 : Code := { maxStack := 3, maxLocals := 3, code := method_6_code, exceptionTable := #[], attributes := #[] }
def k1m5 : Method := { name := "matches", desc := "([BI)Z", sig := { parameters := [(.array .byte), .int], returnType := some .boolean }, accessFlags := 10, code := some k1c5 }
/-- com/example/once_guard/onceguard/ClaimResultCompletedPinLaw -/
def k1 : Class := { plain "com/example/once_guard/onceguard/ClaimResultCompletedPinLaw" (some 0) with
  accessFlags := 49
  interfaces := #[]
  cf := some (fileOf pool1 8 #[] #[{ accessFlags := 1, nameIndex := 5, descriptorIndex := 6, attributes := #[] }, { accessFlags := 9, nameIndex := 50, descriptorIndex := 51, attributes := #[] }, { accessFlags := 10, nameIndex := 46, descriptorIndex := 47, attributes := #[] }, { accessFlags := 10, nameIndex := 11, descriptorIndex := 12, attributes := #[] }, { accessFlags := 10, nameIndex := 21, descriptorIndex := 22, attributes := #[] }, { accessFlags := 10, nameIndex := 42, descriptorIndex := 43, attributes := #[] }] 49 2 #[] #[])
  fields := #[]
  methods := #[k1m0, k1m1, k1m2, k1m3, k1m4, k1m5]
  instanceTypes := #[]
  staticTypes := #[]
  resolved := Array.replicate 59 none
  statics := none }

def pool2 : Array CpInfo := pool [(1, .methodref 2 3), (0, .class_ 4), (0, .nameAndType 5 6), (0, u "java/lang/Object"), (0, u "<init>"), (0, u "()V"), (0, .fieldref 8 9), (0, .class_ 10), (0, .nameAndType 11 12), (0, u "com/example/once_guard/onceguard/ClaimResult"), (0, u "state"), (0, u "Lcom/example/once_guard/onceguard/ClaimResult$State;"), (0, .fieldref 8 14), (0, .nameAndType 15 16), (0, u "fencingNumber"), (0, u "J"), (0, .fieldref 8 18), (0, .nameAndType 19 20), (0, u "payloadDigest"), (0, u "[B"), (0, .fieldref 8 22), (0, .nameAndType 23 20), (0, u "outcome"), (0, .fieldref 25 26), (0, .class_ 27), (0, .nameAndType 28 12), (0, u "com/example/once_guard/onceguard/ClaimResult$State"), (0, u "CLAIMED"), (0, .methodref 8 30), (0, .nameAndType 5 31), (0, u "(Lcom/example/once_guard/onceguard/ClaimResult$State;J[B[B)V"), (0, .string 33), (0, u "payloadDigest must not be null"), (0, .methodref 35 36), (0, .class_ 37), (0, .nameAndType 38 39), (0, u "java/util/Objects"), (0, u "requireNonNull"), (0, u "(Ljava/lang/Object;Ljava/lang/String;)Ljava/lang/Object;"), (3, .methodref 44 45), (0, .class_ 20), (0, .nameAndType 46 47), (0, u "clone"), (0, u "()Ljava/lang/Object;"), (0, .string 49), (0, u "outcome must not be null"), (0, .fieldref 25 51), (0, .nameAndType 52 12), (0, u "COMPLETED"), (24, u "completed"), (0, u "([B[B)Lcom/example/once_guard/onceguard/ClaimResult;"), (0, u "()Lcom/example/once_guard/onceguard/ClaimResult$State;"), (2, u "()[B")] 21

def k2c0 : Code := { maxStack := 3, maxLocals := 6, code := prog_2_method_1_code, exceptionTable := #[], attributes := #[] }
def k2m0 : Method := { name := "<init>", desc := "(Lcom/example/once_guard/onceguard/ClaimResult$State;J[B[B)V", sig := { parameters := [(.object "com/example/once_guard/onceguard/ClaimResult$State"), .long, (.array .byte), (.array .byte)], returnType := none }, accessFlags := 2, code := some k2c0 }
def k2c1 : Code := { maxStack := 7, maxLocals := 2, code := prog_2_method_4_code, exceptionTable := #[], attributes := #[] }
def k2m1 : Method := { name := "completed", desc := "([B[B)Lcom/example/once_guard/onceguard/ClaimResult;", sig := { parameters := [(.array .byte), (.array .byte)], returnType := some (.object "com/example/once_guard/onceguard/ClaimResult") }, accessFlags := 9, code := some k2c1 }
def k2c2 : Code := { maxStack := 1, maxLocals := 1, code := prog_2_method_5_code, exceptionTable := #[], attributes := #[] }
def k2m2 : Method := { name := "state", desc := "()Lcom/example/once_guard/onceguard/ClaimResult$State;", sig := { parameters := [], returnType := some (.object "com/example/once_guard/onceguard/ClaimResult$State") }, accessFlags := 1, code := some k2c2 }
def k2c3 : Code := { maxStack := 3, maxLocals := 1, code := prog_2_method_7_code, exceptionTable := #[], attributes := #[] }
def k2m3 : Method := { name := "payloadDigest", desc := "()[B", sig := { parameters := [], returnType := some (.array .byte) }, accessFlags := 1, code := some k2c3 }
def k2c4 : Code := { maxStack := 3, maxLocals := 1, code := prog_2_method_8_code, exceptionTable := #[], attributes := #[] }
def k2m4 : Method := { name := "outcome", desc := "()[B", sig := { parameters := [], returnType := some (.array .byte) }, accessFlags := 1, code := some k2c4 }
/-- com/example/once_guard/onceguard/ClaimResult -/
def k2 : Class := { plain "com/example/once_guard/onceguard/ClaimResult" (some 0) with
  accessFlags := 49
  interfaces := #[]
  cf := some (fileOf pool2 8 #[.nestMembers #[25]] #[{ accessFlags := 2, nameIndex := 5, descriptorIndex := 31, attributes := #[] }, { accessFlags := 9, nameIndex := 77, descriptorIndex := 78, attributes := #[] }, { accessFlags := 1, nameIndex := 11, descriptorIndex := 79, attributes := #[] }, { accessFlags := 1, nameIndex := 19, descriptorIndex := 82, attributes := #[] }, { accessFlags := 1, nameIndex := 23, descriptorIndex := 82, attributes := #[] }] 49 2 #[] #[{ accessFlags := 18, nameIndex := 11, descriptorIndex := 12, attributes := #[] }, { accessFlags := 18, nameIndex := 15, descriptorIndex := 16, attributes := #[] }, { accessFlags := 18, nameIndex := 19, descriptorIndex := 20, attributes := #[] }, { accessFlags := 18, nameIndex := 23, descriptorIndex := 20, attributes := #[] }])
  fields := #[{ name := "state", type := (.object "com/example/once_guard/onceguard/ClaimResult$State"), accessFlags := 18, slot := 0, constantValue := 0 }, { name := "fencingNumber", type := .long, accessFlags := 18, slot := 1, constantValue := 0 }, { name := "payloadDigest", type := (.array .byte), accessFlags := 18, slot := 2, constantValue := 0 }, { name := "outcome", type := (.array .byte), accessFlags := 18, slot := 3, constantValue := 0 }]
  methods := #[k2m0, k2m1, k2m2, k2m3, k2m4]
  instanceTypes := #[(.object "com/example/once_guard/onceguard/ClaimResult$State"), .long, (.array .byte), (.array .byte)]
  staticTypes := #[]
  resolved := Array.replicate 104 none
  statics := none }

def pool3 : Array CpInfo := pool [(1, .class_ 2), (0, u "java/io/Serializable"), (0, .class_ 4), (0, u "java/lang/Object")] 2

/-- java/io/Serializable -/
def k3 : Class := { plain "java/io/Serializable" (some 0) with
  accessFlags := 1537
  interfaces := #[]
  cf := some (fileOf pool3 1 #[] #[] 1537 3 #[] #[])
  fields := #[]
  methods := #[]
  instanceTypes := #[]
  staticTypes := #[]
  resolved := Array.replicate 7 none
  statics := none }

def pool4 : Array CpInfo := pool [(1, .class_ 2), (0, u "java/lang/Comparable"), (0, .class_ 4), (0, u "java/lang/Object")] 7

/-- java/lang/Comparable -/
def k4 : Class := { plain "java/lang/Comparable" (some 0) with
  accessFlags := 1537
  interfaces := #[]
  cf := some (fileOf pool4 1 #[] #[] 1537 3 #[] #[])
  fields := #[]
  methods := #[]
  instanceTypes := #[]
  staticTypes := #[]
  resolved := Array.replicate 12 none
  statics := none }

def pool5 : Array CpInfo := pool [(2, .class_ 4), (1, u "java/lang/CharSequence"), (42, .class_ 48), (0, u "java/lang/CharSequence$1CodePointIterator"), (10, .class_ 60), (0, u "java/lang/CharSequence$1CharIterator"), (5, .class_ 67), (0, u "java/lang/Object")] 63

/-- java/lang/CharSequence -/
def k5 : Class := { plain "java/lang/CharSequence" (some 0) with
  accessFlags := 1537
  interfaces := #[]
  cf := some (fileOf pool5 2 #[.nestMembers #[47, 59]] #[] 1537 66 #[] #[])
  fields := #[]
  methods := #[]
  instanceTypes := #[]
  staticTypes := #[]
  resolved := Array.replicate 131 none
  statics := none }

def pool6 : Array CpInfo := pool [(1, .class_ 2), (0, u "java/lang/constant/Constable"), (0, .class_ 4), (0, u "java/lang/Object")] 6

/-- java/lang/constant/Constable -/
def k6 : Class := { plain "java/lang/constant/Constable" (some 0) with
  accessFlags := 1537
  interfaces := #[]
  cf := some (fileOf pool6 1 #[] #[] 1537 3 #[] #[])
  fields := #[]
  methods := #[]
  instanceTypes := #[]
  staticTypes := #[]
  resolved := Array.replicate 11 none
  statics := none }

def pool7 : Array CpInfo := pool [(1, .class_ 2), (0, u "java/lang/constant/ConstantDesc"), (0, .class_ 4), (0, u "java/lang/Object")] 32

/-- java/lang/constant/ConstantDesc -/
def k7 : Class := { plain "java/lang/constant/ConstantDesc" (some 0) with
  accessFlags := 1537
  interfaces := #[]
  cf := some (fileOf pool7 1 #[] #[] 1537 3 #[] #[])
  fields := #[]
  methods := #[]
  instanceTypes := #[]
  staticTypes := #[]
  resolved := Array.replicate 37 none
  statics := none }

def pool8 : Array CpInfo := pool [(2, .class_ 4), (1, u "java/lang/Object"), (0, u "<init>"), (0, u "()V"), (3, .class_ 12), (1, u "java/lang/String"), (0, u "value"), (0, u "[B"), (2, u "coder"), (0, u "B"), (2, u "hash"), (0, u "I"), (2, u "hashIsZero"), (0, u "Z"), (13, u "COMPACT_STRINGS"), (534, .class_ 576), (0, u "java/lang/CharSequence"), (22, u "CASE_INSENSITIVE_ORDER"), (0, u "Ljava/util/Comparator;"), (500, u "serialPersistentFields"), (0, u "[Ljava/io/ObjectStreamField;"), (0, .class_ 1104), (0, u "java/lang/String$CaseInsensitiveComparator"), (1, .class_ 1107), (0, u "java/io/Serializable"), (0, .class_ 1109), (0, u "java/lang/Comparable"), (0, .class_ 1111), (0, u "java/lang/constant/Constable"), (0, .class_ 1113), (0, u "java/lang/constant/ConstantDesc"), (2, u "serialVersionUID"), (0, u "J"), (3, u "REPL"), (0, u "C"), (2, u "LATIN1"), (1, u "UTF16")] 323

def k8m0 : Method := { name := "<init>", desc := "()V", sig := { parameters := [], returnType := none }, accessFlags := 1, code := none }
/-- java/lang/String -/
def k8 : Class := { plain "java/lang/String" (some 0) with
  accessFlags := 49
  interfaces := #[3, 4, 5, 6, 7]
  cf := some (fileOf pool8 10 #[.nestMembers #[1103]] #[{ accessFlags := 1, nameIndex := 5, descriptorIndex := 6, attributes := #[] }] 49 2 #[1106, 1108, 575, 1110, 1112] #[{ accessFlags := 18, nameIndex := 13, descriptorIndex := 14, attributes := #[] }, { accessFlags := 18, nameIndex := 17, descriptorIndex := 18, attributes := #[] }, { accessFlags := 2, nameIndex := 21, descriptorIndex := 22, attributes := #[] }, { accessFlags := 2, nameIndex := 25, descriptorIndex := 26, attributes := #[] }, { accessFlags := 26, nameIndex := 1116, descriptorIndex := 1117, attributes := #[] }, { accessFlags := 24, nameIndex := 40, descriptorIndex := 26, attributes := #[] }, { accessFlags := 26, nameIndex := 1101, descriptorIndex := 1102, attributes := #[] }, { accessFlags := 26, nameIndex := 1121, descriptorIndex := 1122, attributes := #[] }, { accessFlags := 25, nameIndex := 599, descriptorIndex := 600, attributes := #[] }, { accessFlags := 24, nameIndex := 1125, descriptorIndex := 18, attributes := #[] }, { accessFlags := 24, nameIndex := 1127, descriptorIndex := 18, attributes := #[] }])
  fields := #[{ name := "value", type := (.array .byte), accessFlags := 18, slot := 0, constantValue := 0 }, { name := "coder", type := .byte, accessFlags := 18, slot := 1, constantValue := 0 }, { name := "hash", type := .int, accessFlags := 2, slot := 2, constantValue := 0 }, { name := "hashIsZero", type := .boolean, accessFlags := 2, slot := 3, constantValue := 0 }, { name := "serialVersionUID", type := .long, accessFlags := 26, slot := 0, constantValue := 0 }, { name := "COMPACT_STRINGS", type := .boolean, accessFlags := 24, slot := 1, constantValue := 0 }, { name := "serialPersistentFields", type := (.array (.object "java/io/ObjectStreamField")), accessFlags := 26, slot := 2, constantValue := 0 }, { name := "REPL", type := .char, accessFlags := 26, slot := 3, constantValue := 0 }, { name := "CASE_INSENSITIVE_ORDER", type := (.object "java/util/Comparator"), accessFlags := 25, slot := 4, constantValue := 0 }, { name := "LATIN1", type := .byte, accessFlags := 24, slot := 5, constantValue := 0 }, { name := "UTF16", type := .byte, accessFlags := 24, slot := 6, constantValue := 0 }]
  methods := #[k8m0]
  instanceTypes := #[(.array .byte), .byte, .int, .boolean]
  staticTypes := #[.long, .boolean, (.array (.object "java/io/ObjectStreamField")), .char, (.object "java/util/Comparator"), .byte, .byte]
  resolved := Array.replicate 1451 none
  statics := none }

def pool9 : Array CpInfo := pool [(2, .class_ 4), (1, u "java/lang/Object"), (0, u "<init>"), (0, u "()V"), (35, .class_ 44), (1, u "java/util/Objects"), (0, u "requireNonNull"), (48, u "(Ljava/lang/Object;Ljava/lang/String;)Ljava/lang/Object;")] 89

def k9m0 : Method := { name := "<init>", desc := "()V", sig := { parameters := [], returnType := none }, accessFlags := 2, code := none }
def k9c1 : Code := { maxStack := 3, maxLocals := 2, code := jdk_31_method_11_code, exceptionTable := #[], attributes := #[] }
def k9m1 : Method := { name := "requireNonNull", desc := "(Ljava/lang/Object;Ljava/lang/String;)Ljava/lang/Object;", sig := { parameters := [(.object "java/lang/Object"), (.object "java/lang/String")], returnType := some (.object "java/lang/Object") }, accessFlags := 9, code := some k9c1 }
/-- java/util/Objects -/
def k9 : Class := { plain "java/util/Objects" (some 0) with
  accessFlags := 49
  interfaces := #[]
  cf := some (fileOf pool9 42 #[] #[{ accessFlags := 2, nameIndex := 5, descriptorIndex := 6, attributes := #[] }, { accessFlags := 9, nameIndex := 45, descriptorIndex := 94, attributes := #[] }] 49 2 #[] #[])
  fields := #[]
  methods := #[k9m0, k9m1]
  instanceTypes := #[]
  staticTypes := #[]
  resolved := Array.replicate 184 none
  statics := none }

def pool10 : Array CpInfo := pool [(2, .class_ 4), (1, u "java/lang/Enum"), (0, u "name"), (0, u "Ljava/lang/String;"), (2, u "ordinal"), (0, u "I"), (1, .class_ 14), (1, u "java/lang/Object"), (4, u "hash"), (86, .class_ 108), (1, u "java/lang/Enum$EnumDesc"), (2, .class_ 112), (0, u "java/lang/constant/Constable"), (0, .class_ 114), (0, u "java/lang/Comparable"), (0, .class_ 116), (0, u "java/io/Serializable")] 87

/-- java/lang/Enum -/
def k10 : Class := { plain "java/lang/Enum" (some 0) with
  accessFlags := 1057
  interfaces := #[6, 4, 3]
  cf := some (fileOf pool10 2 #[.nestMembers #[106]] #[] 1057 12 #[111, 113, 115] #[{ accessFlags := 18, nameIndex := 5, descriptorIndex := 6, attributes := #[] }, { accessFlags := 18, nameIndex := 9, descriptorIndex := 10, attributes := #[] }, { accessFlags := 2, nameIndex := 19, descriptorIndex := 10, attributes := #[] }])
  fields := #[{ name := "name", type := (.object "java/lang/String"), accessFlags := 18, slot := 0, constantValue := 0 }, { name := "ordinal", type := .int, accessFlags := 18, slot := 1, constantValue := 0 }, { name := "hash", type := .int, accessFlags := 2, slot := 2, constantValue := 0 }]
  methods := #[]
  instanceTypes := #[(.object "java/lang/String"), .int, .int]
  staticTypes := #[]
  resolved := Array.replicate 204 none
  statics := none }

def pool11 : Array CpInfo := pool [(1, .class_ 2), (0, u "com/example/once_guard/onceguard/ClaimResult$State"), (2, u "CLAIMED"), (0, u "Lcom/example/once_guard/onceguard/ClaimResult$State;"), (2, u "IN_PROGRESS"), (2, u "COMPLETED"), (2, u "$VALUES"), (0, u "[Lcom/example/once_guard/onceguard/ClaimResult$State;"), (6, .class_ 25), (1, u "java/lang/Enum"), (26, .class_ 53), (0, u "com/example/once_guard/onceguard/ClaimResult")] 2

/-- com/example/once_guard/onceguard/ClaimResult$State -/
def k11 : Class := { plain "com/example/once_guard/onceguard/ClaimResult$State" (some 10) with
  accessFlags := 16433
  interfaces := #[]
  cf := some (fileOf pool11 1 #[.nestHost 52] #[] 16433 23 #[] #[{ accessFlags := 16409, nameIndex := 5, descriptorIndex := 6, attributes := #[] }, { accessFlags := 16409, nameIndex := 9, descriptorIndex := 6, attributes := #[] }, { accessFlags := 16409, nameIndex := 12, descriptorIndex := 6, attributes := #[] }, { accessFlags := 4122, nameIndex := 15, descriptorIndex := 16, attributes := #[] }])
  fields := #[{ name := "CLAIMED", type := (.object "com/example/once_guard/onceguard/ClaimResult$State"), accessFlags := 16409, slot := 0, constantValue := 0 }, { name := "IN_PROGRESS", type := (.object "com/example/once_guard/onceguard/ClaimResult$State"), accessFlags := 16409, slot := 1, constantValue := 0 }, { name := "COMPLETED", type := (.object "com/example/once_guard/onceguard/ClaimResult$State"), accessFlags := 16409, slot := 2, constantValue := 0 }, { name := "$VALUES", type := (.array (.object "com/example/once_guard/onceguard/ClaimResult$State")), accessFlags := 4122, slot := 3, constantValue := 0 }]
  methods := #[]
  instanceTypes := #[(.object "java/lang/String"), .int, .int]
  staticTypes := #[(.object "com/example/once_guard/onceguard/ClaimResult$State"), (.object "com/example/once_guard/onceguard/ClaimResult$State"), (.object "com/example/once_guard/onceguard/ClaimResult$State"), (.array (.object "com/example/once_guard/onceguard/ClaimResult$State"))]
  resolved := Array.replicate 56 none
  statics := some 0 }

def pool12 : Array CpInfo := pool [(1, .class_ 2), (0, u "java/lang/Cloneable"), (0, .class_ 4), (0, u "java/lang/Object")] 2

/-- java/lang/Cloneable -/
def k12 : Class := { plain "java/lang/Cloneable" (some 0) with
  accessFlags := 1537
  interfaces := #[]
  cf := some (fileOf pool12 1 #[] #[] 1537 3 #[] #[])
  fields := #[]
  methods := #[]
  instanceTypes := #[]
  staticTypes := #[]
  resolved := Array.replicate 7 none
  statics := none }

/-- the primitive byte -/
def k13 : Class := { plain "byte" none with kind := .primitive 'B', accessFlags := 0x411 }
/-- [B -/
def k14 : Class := { plain "[B" (some 0) with kind := .array 13 .byte, interfaces := #[12, 3], accessFlags := 1041 }

/-- the primitive int -/
def k15 : Class := { plain "int" none with kind := .primitive 'I', accessFlags := 0x411 }
/-- [I -/
def k16 : Class := { plain "[I" (some 0) with kind := .array 15 .int, interfaces := #[12, 3], accessFlags := 1041 }

def heap : Heap := #[{ cls := 11, slots := #[.ref 2, .null, .ref 1, .null], vm := .statics 11 },
  { cls := 11, slots := #[.null, .int 2, .int 0], vm := .none },
  { cls := 11, slots := #[.null, .int 0, .int 0], vm := .none }]
def classes : Array Class := #[k0, k1, k2, k3, k4, k5, k6, k7, k8, k9, k10, k11, k12, k13, k14, k15, k16]
def interned : List (Array UInt16 × Addr) := []
def slotsUsed : Nat := 10
def theMethod : MethodId := ⟨1, 1⟩
def args0 : Array Value := #[.int 5, .int 5, .int 5]
def aboutOver (below : List Frame) : State where
  vm := { classes := classes, interned := interned.toArray }
  heap := heap
  slotsUsed := slotsUsed
  threads := #[{ frames := .invoking theMethod args0 :: below }]
def below0 : List Frame := [.native { method := ⟨0, 0⟩, args := #[] }]
def about1 : State := aboutOver below0
def p0 : Program := .bare "" "" ""
def e0 : Env := launch0.env 0 0 0
theorem w_frames : about1.frames = Frame.invoking theMethod args0 :: below0 := rfl
set_option maxRecDepth 65536 in
theorem w_args : argsFit about1.vm theMethod args0 = true := by decide +kernel
set_option maxRecDepth 65536 in
theorem w_heap : heapFits about1 = true := by decide +kernel
set_option maxRecDepth 65536 in
theorem w_runnable : about1.curStatus? = some .runnable := by decide +kernel
set_option maxRecDepth 65536 in
theorem w_alone : about1.alone = true := by decide +kernel
set_option maxRecDepth 65536 in
theorem w_named : about1.methodNamed? x = some theMethod := by decide +kernel
set_option maxRecDepth 65536 in
theorem w_hears : about1.hears theMethod below0 = true := by decide +kernel
set_option maxRecDepth 65536 in
theorem w_ripe : about1.ripe theMethod args0 below0 = true := by decide +kernel
theorem w_running : about1.status = .running := rfl
set_option maxRecDepth 65536 in
theorem w_room : about1.hasRoom e0.platform room_1 = true :=
  launch0.hasRoom_least _ room_1 (by decide +kernel) (by decide +kernel) (by decide +kernel) (by decide +kernel) (by decide +kernel) (by decide +kernel)
theorem allAtoms_all (ts : List Jvm.Cond) (a : Array Jvm.Value) (st : Jvm.State) : (allAtoms ts).before a st = ts.all (fun c => c.before a st) := by
  induction ts with
  | nil => rfl
  | cons c t ih =>
    show (Jvm.Cond.and c (allAtoms t)).before a st = _
    rw [Jvm.Cond.before_and, ih, List.all_cons]
def words1 : List Jvm.Cond := Jvm.Cond.code x code maxLocals ret :: tables_1
/-- a 'code' word, met by the world's own term for the bytes: nothing is compared byte by byte -/
theorem code_word {y : MethodName} {bytes : ByteArray} {mx : Nat} {rt : Option FieldType} {a : Array Value} {s : State} {m : MethodId} {meth : Method} {c : Code} (h1 : s.methodNamed? y = some m) (h2 : s.vm.method? m = some meth) (h3 : meth.code = some c) (h4 : c.code = bytes)
    (h5 : (c.maxLocals == mx && c.exceptionTable.isEmpty && decide (c.maxStack ≤ mostOperands) && decide (meth.sig.returnType = rt) && !meth.locks && decide (parseMethodDescriptor y.desc = some meth.sig)) = true) : (Jvm.Cond.code y bytes mx rt).before a s = true := by
  simp only [Bool.and_eq_true, beq_iff_eq, Bool.not_eq_true', decide_eq_true_eq] at h5
  obtain ⟨⟨⟨⟨⟨g1, g2⟩, g3⟩, g4⟩, g5⟩, g6⟩ := h5
  simp [Cond.before, Cond.holds, Cond.value, h1, h2, h3, h4, g1, g2, g3, g4, g5, g6]
def isCode : Jvm.Cond → Bool
  | .code _ _ _ _ => true
  | _ => false
theorem all_split {L : List Jvm.Cond} {P : Jvm.Cond → Bool} (h1 : L.all (fun c => isCode c || P c) = true) (h2 : ∀ c ∈ L.filter isCode, P c = true) : L.all P = true := by
  refine List.all_eq_true.mpr fun c hc => ?_
  have h := List.all_eq_true.mp h1 c hc
  rcases Bool.eq_false_or_eq_true (isCode c) with hi | hi
  · exact h2 c (List.mem_filter.mpr ⟨hc, hi⟩)
  · simpa [hi] using h
set_option maxRecDepth 65536 in
theorem w_c0 : (Jvm.Cond.code x code maxLocals ret).before args0 about1 = true := code_word (m := ⟨1, 1⟩) (meth := k1m1) (c := k1c1) (by decide +kernel) rfl rfl rfl (by decide +kernel)
set_option maxRecDepth 65536 in
theorem w_c1 : (Jvm.Cond.code ({ cls := "com/example/once_guard/onceguard/ClaimResultCompletedPinLaw", name := "make", desc := "(I)[B" } : Jvm.MethodName) method_4_code (3 : Nat) (Option.some (Jvm.ClassFile.FieldType.array Jvm.ClassFile.FieldType.byte))).before args0 about1 = true := code_word (m := ⟨1, 3⟩) (meth := k1m3) (c := k1c3) (by decide +kernel) rfl rfl rfl (by decide +kernel)
set_option maxRecDepth 65536 in
theorem w_c2 : (Jvm.Cond.code ({ cls := "com/example/once_guard/onceguard/ClaimResultCompletedPinLaw", name := "len", desc := "(I)I" } : Jvm.MethodName) method_3_code (1 : Nat) (Option.some Jvm.ClassFile.FieldType.int)).before args0 about1 = true := code_word (m := ⟨1, 2⟩) (meth := k1m2) (c := k1c2) (by decide +kernel) rfl rfl rfl (by decide +kernel)
set_option maxRecDepth 65536 in
theorem w_c3 : (Jvm.Cond.code ({ cls := "com/example/once_guard/onceguard/ClaimResult", name := "completed", desc := "([B[B)Lcom/example/once_guard/onceguard/ClaimResult;" } : Jvm.MethodName) prog_2_method_4_code (2 : Nat) (Option.some (Jvm.ClassFile.FieldType.object "com/example/once_guard/onceguard/ClaimResult"))).before args0 about1 = true := code_word (m := ⟨2, 1⟩) (meth := k2m1) (c := k2c1) (by decide +kernel) rfl rfl rfl (by decide +kernel)
set_option maxRecDepth 65536 in
theorem w_c4 : (Jvm.Cond.code ({ cls := "java/util/Objects", name := "requireNonNull", desc := "(Ljava/lang/Object;Ljava/lang/String;)Ljava/lang/Object;" } : Jvm.MethodName) jdk_31_method_11_code (2 : Nat) (Option.some (Jvm.ClassFile.FieldType.object "java/lang/Object"))).before args0 about1 = true := code_word (m := ⟨9, 1⟩) (meth := k9m1) (c := k9c1) (by decide +kernel) rfl rfl rfl (by decide +kernel)
set_option maxRecDepth 65536 in
theorem w_c5 : (Jvm.Cond.code ({ cls := "com/example/once_guard/onceguard/ClaimResult", name := "<init>", desc := "(Lcom/example/once_guard/onceguard/ClaimResult$State;J[B[B)V" } : Jvm.MethodName) prog_2_method_1_code (6 : Nat) (Option.none : Option Jvm.ClassFile.FieldType)).before args0 about1 = true := code_word (m := ⟨2, 0⟩) (meth := k2m0) (c := k2c0) (by decide +kernel) rfl rfl rfl (by decide +kernel)
set_option maxRecDepth 65536 in
theorem w_c6 : (Jvm.Cond.code ({ cls := "java/lang/Object", name := "<init>", desc := "()V" } : Jvm.MethodName) object_method_1_code (1 : Nat) (Option.none : Option Jvm.ClassFile.FieldType)).before args0 about1 = true := code_word (m := ⟨0, 0⟩) (meth := k0m0) (c := k0c0) (by decide +kernel) rfl rfl rfl (by decide +kernel)
set_option maxRecDepth 65536 in
theorem w_c7 : (Jvm.Cond.code ({ cls := "com/example/once_guard/onceguard/ClaimResultCompletedPinLaw", name := "spoil", desc := "([BI)V" } : Jvm.MethodName) method_5_code (3 : Nat) (Option.none : Option Jvm.ClassFile.FieldType)).before args0 about1 = true := code_word (m := ⟨1, 4⟩) (meth := k1m4) (c := k1c4) (by decide +kernel) rfl rfl rfl (by decide +kernel)
set_option maxRecDepth 65536 in
theorem w_c8 : (Jvm.Cond.code ({ cls := "com/example/once_guard/onceguard/ClaimResult", name := "state", desc := "()Lcom/example/once_guard/onceguard/ClaimResult$State;" } : Jvm.MethodName) prog_2_method_5_code (1 : Nat) (Option.some (Jvm.ClassFile.FieldType.object "com/example/once_guard/onceguard/ClaimResult$State"))).before args0 about1 = true := code_word (m := ⟨2, 2⟩) (meth := k2m2) (c := k2c2) (by decide +kernel) rfl rfl rfl (by decide +kernel)
set_option maxRecDepth 65536 in
theorem w_c9 : (Jvm.Cond.code ({ cls := "com/example/once_guard/onceguard/ClaimResult", name := "payloadDigest", desc := "()[B" } : Jvm.MethodName) prog_2_method_7_code (1 : Nat) (Option.some (Jvm.ClassFile.FieldType.array Jvm.ClassFile.FieldType.byte))).before args0 about1 = true := code_word (m := ⟨2, 3⟩) (meth := k2m3) (c := k2c3) (by decide +kernel) rfl rfl rfl (by decide +kernel)
set_option maxRecDepth 65536 in
theorem w_c10 : (Jvm.Cond.code ({ cls := "com/example/once_guard/onceguard/ClaimResult", name := "outcome", desc := "()[B" } : Jvm.MethodName) prog_2_method_8_code (1 : Nat) (Option.some (Jvm.ClassFile.FieldType.array Jvm.ClassFile.FieldType.byte))).before args0 about1 = true := code_word (m := ⟨2, 4⟩) (meth := k2m4) (c := k2c4) (by decide +kernel) rfl rfl rfl (by decide +kernel)
set_option maxRecDepth 65536 in
theorem w_c11 : (Jvm.Cond.code ({ cls := "com/example/once_guard/onceguard/ClaimResultCompletedPinLaw", name := "matches", desc := "([BI)Z" } : Jvm.MethodName) method_6_code (3 : Nat) (Option.some Jvm.ClassFile.FieldType.boolean)).before args0 about1 = true := code_word (m := ⟨1, 5⟩) (meth := k1m5) (c := k1c5) (by decide +kernel) rfl rfl rfl (by decide +kernel)
def codes1 : List Jvm.Cond := [Jvm.Cond.code x code maxLocals ret, Jvm.Cond.code ({ cls := "com/example/once_guard/onceguard/ClaimResultCompletedPinLaw", name := "make", desc := "(I)[B" } : Jvm.MethodName) method_4_code (3 : Nat) (Option.some (Jvm.ClassFile.FieldType.array Jvm.ClassFile.FieldType.byte)), Jvm.Cond.code ({ cls := "com/example/once_guard/onceguard/ClaimResultCompletedPinLaw", name := "len", desc := "(I)I" } : Jvm.MethodName) method_3_code (1 : Nat) (Option.some Jvm.ClassFile.FieldType.int), Jvm.Cond.code ({ cls := "com/example/once_guard/onceguard/ClaimResult", name := "completed", desc := "([B[B)Lcom/example/once_guard/onceguard/ClaimResult;" } : Jvm.MethodName) prog_2_method_4_code (2 : Nat) (Option.some (Jvm.ClassFile.FieldType.object "com/example/once_guard/onceguard/ClaimResult")), Jvm.Cond.code ({ cls := "java/util/Objects", name := "requireNonNull", desc := "(Ljava/lang/Object;Ljava/lang/String;)Ljava/lang/Object;" } : Jvm.MethodName) jdk_31_method_11_code (2 : Nat) (Option.some (Jvm.ClassFile.FieldType.object "java/lang/Object")), Jvm.Cond.code ({ cls := "com/example/once_guard/onceguard/ClaimResult", name := "<init>", desc := "(Lcom/example/once_guard/onceguard/ClaimResult$State;J[B[B)V" } : Jvm.MethodName) prog_2_method_1_code (6 : Nat) (Option.none : Option Jvm.ClassFile.FieldType), Jvm.Cond.code ({ cls := "java/lang/Object", name := "<init>", desc := "()V" } : Jvm.MethodName) object_method_1_code (1 : Nat) (Option.none : Option Jvm.ClassFile.FieldType), Jvm.Cond.code ({ cls := "com/example/once_guard/onceguard/ClaimResultCompletedPinLaw", name := "spoil", desc := "([BI)V" } : Jvm.MethodName) method_5_code (3 : Nat) (Option.none : Option Jvm.ClassFile.FieldType), Jvm.Cond.code ({ cls := "com/example/once_guard/onceguard/ClaimResult", name := "state", desc := "()Lcom/example/once_guard/onceguard/ClaimResult$State;" } : Jvm.MethodName) prog_2_method_5_code (1 : Nat) (Option.some (Jvm.ClassFile.FieldType.object "com/example/once_guard/onceguard/ClaimResult$State")), Jvm.Cond.code ({ cls := "com/example/once_guard/onceguard/ClaimResult", name := "payloadDigest", desc := "()[B" } : Jvm.MethodName) prog_2_method_7_code (1 : Nat) (Option.some (Jvm.ClassFile.FieldType.array Jvm.ClassFile.FieldType.byte)), Jvm.Cond.code ({ cls := "com/example/once_guard/onceguard/ClaimResult", name := "outcome", desc := "()[B" } : Jvm.MethodName) prog_2_method_8_code (1 : Nat) (Option.some (Jvm.ClassFile.FieldType.array Jvm.ClassFile.FieldType.byte)), Jvm.Cond.code ({ cls := "com/example/once_guard/onceguard/ClaimResultCompletedPinLaw", name := "matches", desc := "([BI)Z" } : Jvm.MethodName) method_6_code (3 : Nat) (Option.some Jvm.ClassFile.FieldType.boolean)]
set_option maxRecDepth 65536 in
theorem codes_eq : words1.filter isCode = codes1 := rfl
theorem w_codes : ∀ c ∈ words1.filter isCode, c.before args0 about1 = true := by
  rw [codes_eq]
  intro c hc
  simp only [codes1, List.mem_cons, List.not_mem_nil, or_false] at hc
  rcases hc with rfl | rfl | rfl | rfl | rfl | rfl | rfl | rfl | rfl | rfl | rfl | rfl
  · exact w_c0
  · exact w_c1
  · exact w_c2
  · exact w_c3
  · exact w_c4
  · exact w_c5
  · exact w_c6
  · exact w_c7
  · exact w_c8
  · exact w_c9
  · exact w_c10
  · exact w_c11
set_option maxRecDepth 65536 in
theorem w_t1 : (words1.take 24).all (fun c => isCode c || c.before args0 about1) = true := by decide +kernel
set_option maxRecDepth 65536 in
theorem w_t2 : ((words1.drop 24).take 24).all (fun c => isCode c || c.before args0 about1) = true := by decide +kernel
set_option maxRecDepth 65536 in
theorem w_t3 : (((words1.drop 24).drop 24).take 24).all (fun c => isCode c || c.before args0 about1) = true := by decide +kernel
set_option maxRecDepth 65536 in
theorem w_t4 : (((words1.drop 24).drop 24).drop 24).all (fun c => isCode c || c.before args0 about1) = true := by decide +kernel
theorem w_tables : (allAtoms (Jvm.Cond.code x code maxLocals ret :: tables_1)).before args0 about1 = true := by
  rw [allAtoms_all]
  show words1.all (fun c => c.before args0 about1) = true
  refine all_split ?_ w_codes
  rw [← List.take_append_drop 24 words1, List.all_append, w_t1, ← List.take_append_drop 24 (words1.drop 24), List.all_append, w_t2, ← List.take_append_drop 24 ((words1.drop 24).drop 24), List.all_append, w_t3, w_t4]
  rfl
set_option maxRecDepth 65536 in
theorem w_case : (Jvm.Cond.and given_1 narrow_1).before args0 about1 = true := by decide +kernel
theorem w_applies : (headSpec (Jvm.Cond.code x code maxLocals ret :: tables_1) room_1).applies x e0.platform about1 = true :=
  (Spec.applies_iff w_frames).mpr ⟨w_running, w_runnable, w_alone, w_named, w_hears, w_ripe, w_room, w_tables⟩
theorem atStart : AtStart classFile x code maxLocals ret World_1 tables_1 room_1 Calls_1 rest_1 Pre_1 launch0 p0 e0 about1 theMethod args0 below0 :=
  ⟨lists_1, trivial, launch0.admits_env _ _ _, launch0.least_env, fairChoices_fair.cas, fairChoices_fair.clock, w_frames, w_args, w_heap, w_applies, trivial, trivial, w_case⟩
end start1
theorem witness_1 : WitnessClaimed_1 := ⟨start1.p0, start1.e0, start1.about1, start1.theMethod, start1.args0, start1.below0, start1.atStart⟩
end Jvm.Pilot.@@N@@
