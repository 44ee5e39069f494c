import JvmDerived
import JvmDerived.Pilot.@@N@@Statement
import JvmDerived.Pilot.@@N@@Code
set_option linter.unusedVariables false
set_option linter.unusedSimpArgs false
@@BLOCK:NumsL.lean.txt@@
namespace Jvm.OwnW
open Sem ClassFile Op Lib Jvm.Stand Jvm.Free Jvm.LawKit Jvm.RoadKit
section Own
variable {p : Program} {l : Launch} {e : Env} {R : Room} {s : State} {m : MethodId} {args : Array Value} {below : List Frame} {meth : Method} {c : Code} {T : State} {locs : List Loc} {cells slots : Nat} {K N : Nat} {Q : Option Value → Heap → List Loc → Prop}
/-- from U the run comes to the method's end, and what it leaves there is Q -/
def OwnEnds (tb : Tables) (e : Env) (below : List Frame) (s : State) (K N : Nat) (Q : Option Value → Heap → List Loc → Prop) (U : State) : Prop :=
  ∃ s₂ o, Steps tb e below U s₂ ∧ s₂.status = .running ∧ Ended s₂ below o ∧ ∃ v L, o = .returned v ∧ Q v s₂.heap L ∧ FrameEnd s o s₂ L K N
theorem ogo {tb : Tables} {U U' : State} (st : ∀ t, Steps tb e below U' t → Steps tb e below U t) (h : OwnEnds tb e below s K N Q U') : OwnEnds tb e below s K N Q U := by
  obtain ⟨s₂, o, h1, h2⟩ := h
  exact ⟨s₂, o, st _ h1, h2⟩
theorem endR (X : Stand p l e R s m args below meth c T locs cells slots) (hx : p.tables.exec = Jvm.exec) (hlk : meth.locks = false) {pc : Nat} {Ls : Array Slot} {w : Value} {t : FieldType} {i : Instr} {rest : List Value} (hret : meth.sig.returnType = some t) (hn : narrow t w = w)
    (hi : (i = .ireturn ∧ (t = .int ∨ t = .boolean ∨ t = .byte ∨ t = .char ∨ t = .short) ∧ ∃ z, w = .int z) ∨ (i = .lreturn ∧ t = .long ∧ ∃ z, w = .long z) ∨ (i = .dreturn ∧ t = .double ∧ ∃ z, w = .double z) ∨ (i = .freturn ∧ t = .float ∧ ∃ z, w = .float z) ∨ (i = .areturn ∧ t.isReference = true ∧ w.isRef = true))
    (hd : decode c.code pc = .ok (i, 1)) (hK : cells ≤ K) (hN : slots ≤ N) (hQ : Q (some w) T.heap locs) : OwnEnds p.tables e below s K N Q (T.setTop (mkF m pc Ls (w :: rest))) := by
  obtain ⟨fs, hr, hrun, hended, hW, hsame⟩ := X.leave (v := some w) (fun h => by rw [hret] at h; cases h) hlk
  exact ⟨_, _, retOut X hx hret hn hi hd hr, hrun, hended, _, _, rfl, hQ, ⟨_, rfl⟩, hW, hsame.mono hK hN⟩
theorem endI (X : Stand p l e R s m args below meth c T locs cells slots) (hx : p.tables.exec = Jvm.exec) (hlk : meth.locks = false) {pc : Nat} {Ls : Array Slot} {z : Int32} {rest : List Value} (hret : meth.sig.returnType = some .int)
    (hd : decode c.code pc = .ok (.ireturn, 1)) (hK : cells ≤ K) (hN : slots ≤ N) (hQ : Q (some (.int z)) T.heap locs) : OwnEnds p.tables e below s K N Q (T.setTop (mkF m pc Ls (.int z :: rest))) :=
  endR X hx hlk hret rfl (Or.inl ⟨rfl, Or.inl rfl, z, rfl⟩) hd hK hN hQ
theorem endZ (X : Stand p l e R s m args below meth c T locs cells slots) (hx : p.tables.exec = Jvm.exec) (hlk : meth.locks = false) {pc : Nat} {Ls : Array Slot} {z : Int32} {rest : List Value} (hret : meth.sig.returnType = some .boolean) (hn : narrow .boolean (.int z) = .int z)
    (hd : decode c.code pc = .ok (.ireturn, 1)) (hK : cells ≤ K) (hN : slots ≤ N) (hQ : Q (some (.int z)) T.heap locs) : OwnEnds p.tables e below s K N Q (T.setTop (mkF m pc Ls (.int z :: rest))) :=
  endR X hx hlk hret hn (Or.inl ⟨rfl, Or.inr (Or.inl rfl), z, rfl⟩) hd hK hN hQ
theorem endJ (X : Stand p l e R s m args below meth c T locs cells slots) (hx : p.tables.exec = Jvm.exec) (hlk : meth.locks = false) {pc : Nat} {Ls : Array Slot} {z : Int64} {rest : List Value} (hret : meth.sig.returnType = some .long)
    (hd : decode c.code pc = .ok (.lreturn, 1)) (hK : cells ≤ K) (hN : slots ≤ N) (hQ : Q (some (.long z)) T.heap locs) : OwnEnds p.tables e below s K N Q (T.setTop (mkF m pc Ls (.long z :: rest))) :=
  endR X hx hlk hret rfl (Or.inr (Or.inl ⟨rfl, rfl, z, rfl⟩)) hd hK hN hQ
theorem endA (X : Stand p l e R s m args below meth c T locs cells slots) (hx : p.tables.exec = Jvm.exec) (hlk : meth.locks = false) {pc : Nat} {Ls : Array Slot} {w : Value} {t : FieldType} {rest : List Value} (hret : meth.sig.returnType = some t) (ht : t.isReference = true) (hw : w.isRef = true)
    (hd : decode c.code pc = .ok (.areturn, 1)) (hK : cells ≤ K) (hN : slots ≤ N) (hQ : Q (some w) T.heap locs) : OwnEnds p.tables e below s K N Q (T.setTop (mkF m pc Ls (w :: rest))) :=
  endR X hx hlk hret (by rcases ref_cases hw with rfl | ⟨a, rfl⟩ <;> cases t <;> simp_all [narrow, FieldType.isReference]) (Or.inr (Or.inr (Or.inr (Or.inr ⟨rfl, ht, hw⟩)))) hd hK hN hQ
theorem endV (X : Stand p l e R s m args below meth c T locs cells slots) (hx : p.tables.exec = Jvm.exec) (hlk : meth.locks = false) {pc : Nat} {Ls : Array Slot} (hret : meth.sig.returnType = none)
    (hd : decode c.code pc = .ok (.return_, 1)) (hK : cells ≤ K) (hN : slots ≤ N) (hQ : Q none T.heap locs) : OwnEnds p.tables e below s K N Q (T.setTop (mkF m pc Ls [])) := by
  obtain ⟨fs, hr, hrun, hended, hW, hsame⟩ := X.leave (v := none) (fun _ => rfl) hlk
  exact ⟨_, _, X.returnOut hx hret hd hr, hrun, hended, _, _, rfl, hQ, ⟨_, rfl⟩, hW, hsame.mono hK hN⟩
end Own
end Jvm.OwnW
namespace Jvm.Pilot.@@N@@
open Jvm Jvm.ClassFile Sem Op Lib Jvm.Free Jvm.Stand Jvm.LawKit Jvm.RoadKit Jvm.OwnW Bundle Jvm.Pilot.@@N@@.Jvm.D
theorem own_cat {v : Value} (h : v.isRef = true) : v.category = 1 := by rcases ref_cases h with rfl | ⟨a, rfl⟩ <;> rfl
theorem own_ite {q : Prop} [Decidable q] {a b : Value} (ha : a.isRef = true) (hb : b.isRef = true) : (if q then a else b).isRef = true := by split <;> assumption
theorem own_fld {args : Array Value} {s : State} {t : Term} {C n d : String} {k : Int32} {a : Addr} (h : (Cond.eq (.field t C n d) (.int k)).value args s none s [] = some true) (ev : t.eval args s none [] s = some (.ref a)) : Fld s s.heap a C n d (.int k) := by
  obtain ⟨x, y, e1, e2, -, -⟩ := cmp_v (Or.inl h)
  have e3 : y = .int k := (Option.some.inj (e2.symm.trans (Term.int_eval k)))
  subst e3
  have e4 : s.fieldOf? a C n d = some x := by simpa [Term.eval, ev] using e1
  cases x <;> simp [Cond.value, e1, e2] at h
  subst h
  exact Fld.start e4
theorem own_selP {s : State} {args : Array Value} {y z : MethodName} (hz : (Cond.selects z.cls z z).before args s = true) (hc : y.cls = z.cls) (hpriv : s.PrivateAt y) (hinst : (Cond.instanceMethod y).before args s = true) (hy : y.cls ≠ "java/lang/invoke/MethodHandle" ∧ y.cls ≠ "java/lang/invoke/VarHandle") : (Cond.selects y.cls y y).before args s = true := by
  obtain ⟨c2, r2, m2, q1, q2, q3, q4, kP, hkP, hkPi⟩ := Cond.selects_spec hz
  exact selects_self_of_private (by rw [hc]; exact findClass_of_methodNamed q3) hkP hkPi hpriv hinst hy
theorem own_len {args : Array Value} {s : State} {t : Term} {k : Int32} {a : Addr} {cl : Cell} (h : (Cond.eq (.length t) (.int k)).value args s none s [] = some true) (ev : t.eval args s none [] s = some (.ref a)) (hc : s.arrayAt? a = some cl) : cl.slots.size < 2 ^ 31 ∧ cl.slots.size.toInt32 = k := by
  obtain ⟨x, y, e1, e2, -, -⟩ := cmp_v (Or.inl h)
  have e3 : y = .int k := Option.some.inj (e2.symm.trans (Term.int_eval k))
  subst e3
  by_cases hl : cl.slots.size < 2 ^ 31
  · have e4 := len_f (args := args) (first := s) (o := none) (idx := []) ev hc hl
    refine ⟨hl, ?_⟩
    have e5 : x = .int cl.slots.size.toInt32 := Option.some.inj (e1.symm.trans e4)
    subst e5
    simpa [Cond.value, e1, e2] using h
  · exfalso
    simp [Term.eval, ev, hc, hl] at e1
theorem own_elem {args : Array Value} {s : State} {t u : Term} {j : Int32} {a b : Addr} {cl : Cell} (h : (Cond.eq (.elem t (.int j)) u).value args s none s [] = some true) (ev : t.eval args s none [] s = some (.ref a)) (evu : u.eval args s none [] s = some (.ref b)) (hc : s.heap[a]? = some cl) : cl.slots[j.toNatClampNeg]? = some (.ref b) := by
  obtain ⟨x, y, e1, e2, -, -⟩ := cmp_v (Or.inl h)
  cases e2.symm.trans evu
  obtain ⟨-, q⟩ := elem_in e1 ev (Term.int_eval j) hc
  rw [q]
  cases x <;> simp [Cond.value, e1, e2] at h ⊢
  exact h
theorem own_narb (x : Int32) : nar .byte x.toInt8.toInt32 = x.toInt8.toInt32 := by simp [nar]
def Av (Z : State) (h : Heap) (a : Addr) (ty : FieldType) (z : Int32) (vs : List Value) (d : Value) : Prop := ∃ k, Arv Z h a k ty z vs d
theorem Av.ext {Z : State} {h h' : Heap} {a : Addr} {ty : FieldType} {z : Int32} {vs : List Value} {d : Value} (F : Av Z h a ty z vs d) (E : Ext h h') : Av Z h' a ty z vs d := by obtain ⟨k, F⟩ := F; exact ⟨k, F.ext E⟩
theorem Av.other {Z : State} {h h' : Heap} {a b : Addr} {ty : FieldType} {z : Int32} {vs : List Value} {d v : Value} {sl : Nat} (F : Av Z h a ty z vs d) (W : Wr h h' b sl v) (q : a ≠ b) : Av Z h' a ty z vs d := by obtain ⟨k, F⟩ := F; exact ⟨k, F.other W q⟩
theorem Av.keep {Z : State} {h h' : Heap} {a : Addr} {ty : FieldType} {z : Int32} {vs : List Value} {d : Value} {ws : List Addr} (F : Av Z h a ty z vs d) (K : Keep h h' ws) (q : a ∉ ws) : Av Z h' a ty z vs d := by obtain ⟨k, F⟩ := F; exact ⟨k, F.keep K q⟩
theorem Av.lt {Z : State} {h : Heap} {a : Addr} {ty : FieldType} {z : Int32} {vs : List Value} {d : Value} (F : Av Z h a ty z vs d) : a < h.size := by obtain ⟨k, F⟩ := F; exact F.lt
theorem own_i32 {x : Int32} {n : Nat} (h : x.toInt = n) : x.toNatClampNeg = n := by
  show x.toInt.toNat = n
  omega
def own_sh6 (p : Int32) : Int32 := ((p.toUInt32 >>> ((6 : Int32) &&& 31).toUInt32).toInt32)
def own_L (n : Int32) : Int32 := own_sh6 n + 1
theorem own_sh6_i {p : Int32} (h : 0 ≤ p.toInt) : (own_sh6 p).toInt = p.toInt / 64 := by
  have q := Jvm.Kit.i32_iushr (x := p) (Jvm.Kit.i32_nonneg.mpr h) (n := ((6 : Int32) &&& 31).toUInt32) (k := 6) (by decide) (by decide)
  exact q
theorem own_a63 (p : Int32) : (p &&& 63).toInt = p.toInt % 64 := Jvm.Kit.i32_mask p 63 (k := 6) (by decide) (by decide)
def OkN (n : Int32) : Prop := 1 ≤ n.toInt ∧ n.toInt ≤ 4096
def InN (n p : Int32) : Prop := 0 ≤ p.toInt ∧ p.toInt ≤ n.toInt
theorem own_L_i {n : Int32} (h : OkN n) : (own_L n).toInt = n.toInt / 64 + 1 := by
  have e := own_sh6_i (p := n) (by have := h.1; omega)
  have o : (1 : Int32).toInt = 1 := rfl
  have b := h.2
  have a := h.1
  show (own_sh6 n + 1).toInt = _
  rw [Jvm.Kit.i32_add (by omega) (by omega), e, o]
theorem own_L_n {n : Int32} (h : OkN n) : (own_L n).toNatClampNeg = (n.toInt / 64 + 1).toNat := by
  show (own_L n).toInt.toNat = _
  rw [own_L_i h]
theorem own_Lnn {n : Int32} (h : OkN n) : ¬ own_L n < 0 := by
  rw [Int32.lt_iff_toInt_lt, own_L_i h]
  have z : (0 : Int32).toInt = 0 := rfl
  have a := h.1
  omega
theorem own_Lcap {n : Int32} (h : OkN n) : (own_L n).toNatClampNeg ≤ 65 := by
  rw [own_L_n h]
  have a := h.2
  omega
theorem own_n1 {n : Int32} (h : OkN n) : (n + 1).toInt = n.toInt + 1 := by
  have o : (1 : Int32).toInt = 1 := rfl
  have a := h.1
  have b := h.2
  rw [Jvm.Kit.i32_add (by omega) (by omega), o]
theorem own_n1nn {n : Int32} (h : OkN n) : ¬ (n + 1) < 0 := by
  rw [Int32.lt_iff_toInt_lt, own_n1 h]
  have z : (0 : Int32).toInt = 0 := rfl
  have a := h.1
  omega
theorem own_n1n {n : Int32} (h : OkN n) : (n + 1).toNatClampNeg = n.toInt.toNat + 1 := by
  show (n + 1).toInt.toNat = _
  rw [own_n1 h]
  have a := h.1
  omega
theorem own_pn {p : Int32} : p.toNatClampNeg = p.toInt.toNat := rfl
/-- the place in the page table -/
theorem own_pi {n p : Int32} (h : OkN n) (q : InN n p) : (¬ own_sh6 p < 0 ∧ own_sh6 p < own_L n) ∧ (own_sh6 p).toNatClampNeg = p.toInt.toNat / 64 ∧ p.toInt.toNat / 64 < (own_L n).toNatClampNeg := by
  have e := own_sh6_i q.1
  have l := own_L_i h
  have z : (0 : Int32).toInt = 0 := rfl
  obtain ⟨q1, q2⟩ := q
  refine ⟨⟨?_, ?_⟩, ?_, ?_⟩
  · rw [Int32.lt_iff_toInt_lt, e]; omega
  · rw [Int32.lt_iff_toInt_lt, e, l]; omega
  · show (own_sh6 p).toInt.toNat = _; rw [e]; omega
  · rw [own_L_n h]; omega
theorem own_pj (p : Int32) (q : 0 ≤ p.toInt) : (¬ (p &&& 63) < 0 ∧ (p &&& 63) < 64) ∧ (p &&& 63).toNatClampNeg = p.toInt.toNat % 64 := by
  have e := own_a63 p
  have z : (0 : Int32).toInt = 0 := rfl
  have s : (64 : Int32).toInt = 64 := by decide
  refine ⟨⟨?_, ?_⟩, ?_⟩
  · rw [Int32.lt_iff_toInt_lt, e]; omega
  · rw [Int32.lt_iff_toInt_lt, e, s]; omega
  · show (p &&& 63).toInt.toNat = _; rw [e]; omega
theorem own_pv {n p : Int32} (h : OkN n) (q : InN n p) : (¬ p < 0 ∧ p < n + 1) ∧ p.toInt.toNat < (n + 1).toNatClampNeg := by
  have z : (0 : Int32).toInt = 0 := rfl
  obtain ⟨q1, q2⟩ := q
  refine ⟨⟨?_, ?_⟩, ?_⟩
  · rw [Int32.lt_iff_toInt_lt]; omega
  · rw [Int32.lt_iff_toInt_lt, own_n1 h]; omega
  · rw [own_n1n h]; omega
theorem own_64 (k : Nat) : 64 * (k / 64) + k % 64 = k := Nat.div_add_mod k 64
def lst (f : Nat → Int32) (N : Nat) : List Value := (List.range N).map fun i => .int (f i)
def lstV (f : Nat → Value) (N : Nat) : List Value := (List.range N).map f
theorem lst_len (f : Nat → Int32) (N : Nat) : (lst f N).length = N := by simp [lst]
theorem lstV_len (f : Nat → Value) (N : Nat) : (lstV f N).length = N := by simp [lstV]
theorem lst_at {f : Nat → Int32} {N i : Nat} {d : Value} (h : i < N) : (lst f N).getD i d = .int (f i) := by
  simp [lst, List.getD_eq_getElem?_getD, List.getElem?_map, List.getElem?_range, h]
theorem lstV_at {f : Nat → Value} {N i : Nat} {d : Value} (h : i < N) : (lstV f N).getD i d = f i := by
  simp [lstV, List.getD_eq_getElem?_getD, List.getElem?_map, List.getElem?_range, h]
theorem lst_congr {f g : Nat → Int32} {N : Nat} (h : ∀ i, i < N → f i = g i) : lst f N = lst g N := by
  unfold lst
  exact List.map_congr_left fun i hi => by rw [h i (List.mem_range.mp hi)]
def fupd (f : Nat → Int32) (v : Nat) (l : Int32) : Nat → Int32 := fun i => if i = v then l else f i
theorem lst_set {f : Nat → Int32} {N v : Nat} {l : Int32} : (lst f N).set v (.int l) = lst (fupd f v l) N := by
  apply List.ext_getElem?
  intro i
  by_cases hi : i < N
  · by_cases hv : v = i
    · subst hv
      rw [List.getElem?_set_self (by rw [lst_len]; exact hi)]
      simp [lst, List.getElem?_map, List.getElem?_range, hi, fupd]
    · rw [List.getElem?_set_ne hv]
      simp [lst, List.getElem?_map, List.getElem?_range, hi, fupd, Ne.symm hv]
  · rw [List.getElem?_eq_none (by rw [List.length_set, lst_len]; omega), List.getElem?_eq_none (by rw [lst_len]; omega)]
def fupdV (f : Nat → Value) (v : Nat) (l : Value) : Nat → Value := fun i => if i = v then l else f i
theorem lstV_set {f : Nat → Value} {N v : Nat} {l : Value} : (lstV f N).set v l = lstV (fupdV f v l) N := by
  apply List.ext_getElem?
  intro i
  by_cases hi : i < N
  · by_cases hv : v = i
    · subst hv
      rw [List.getElem?_set_self (by rw [lstV_len]; exact hi)]
      simp [lstV, List.getElem?_map, List.getElem?_range, hi, fupdV]
    · rw [List.getElem?_set_ne hv]
      simp [lstV, List.getElem?_map, List.getElem?_range, hi, fupdV, Ne.symm hv]
  · rw [List.getElem?_eq_none (by rw [List.length_set, lstV_len]; omega), List.getElem?_eq_none (by rw [lstV_len]; omega)]
theorem lst_rep (N : Nat) : List.replicate N (.int (0 : Int32)) = lst (fun _ => 0) N := by
  unfold lst
  rw [List.map_const', List.length_range]
theorem lstV_rep (N : Nat) : List.replicate N (Value.null) = lstV (fun _ => .null) N := by
  unfold lstV
  rw [List.map_const', List.length_range]
/-- the pages -/
def PP (Z : State) (h : Heap) (n0 : Nat) (pf : Nat → Value) (N : Nat) (f : Nat → Int32) : Prop := ∀ i, i < N → (pf i = .null ∧ ∀ j, j < 64 → f (64 * i + j) = 0) ∨ ∃ p : Addr, pf i = .ref p ∧ n0 ≤ p ∧ Av Z h p .int (64 : Int32) (lst (fun j => f (64 * i + j)) 64) (.int (0 : Int32))
def PI (pf : Nat → Value) (N : Nat) : Prop := ∀ i i' (p : Addr), i < N → i' < N → pf i = .ref p → pf i' = .ref p → i = i'
theorem PP.ext {Z : State} {h h' : Heap} {n0 : Nat} {pf : Nat → Value} {N : Nat} {f : Nat → Int32} (P : PP Z h n0 pf N f) (E : Ext h h') : PP Z h' n0 pf N f := fun i hi => (P i hi).imp id fun ⟨p, a, b, c⟩ => ⟨p, a, b, c.ext E⟩
theorem PP.page {Z : State} {h : Heap} {n0 : Nat} {pf : Nat → Value} {N : Nat} {f : Nat → Int32} (P : PP Z h n0 pf N f) {i : Nat} {p : Addr} (hi : i < N) (e : pf i = .ref p) : n0 ≤ p ∧ Av Z h p .int (64 : Int32) (lst (fun j => f (64 * i + j)) 64) (.int (0 : Int32)) := by
  rcases P i hi with ⟨q, -⟩ | ⟨p', a, b, c⟩
  · rw [e] at q; cases q
  · rw [e] at a; cases a; exact ⟨b, c⟩
theorem PP.keep {Z : State} {h h' : Heap} {n0 : Nat} {pf : Nat → Value} {N : Nat} {f : Nat → Int32} {ws : List Addr} (P : PP Z h n0 pf N f) (K : Keep h h' ws) (q : ∀ i (p : Addr), i < N → pf i = .ref p → p ∉ ws) : PP Z h' n0 pf N f := fun i hi => by
  rcases P i hi with a | ⟨p, a, b, c⟩
  · exact Or.inl a
  · exact Or.inr ⟨p, a, b, c.keep K (q i p hi a)⟩
theorem PP.other {Z : State} {h h' : Heap} {n0 : Nat} {pf : Nat → Value} {N : Nat} {f : Nat → Int32} {a : Addr} {sl : Nat} {v : Value} (P : PP Z h n0 pf N f) (W : Wr h h' a sl v) (q : ∀ i (p : Addr), i < N → pf i = .ref p → p ≠ a) : PP Z h' n0 pf N f := P.keep (Keep.of_wr W) fun i p hi e => ninS (q i p hi e) nin0
theorem PP.ne_new {Z : State} {h : Heap} {n0 : Nat} {pf : Nat → Value} {N : Nat} {f : Nat → Int32} {b : Addr} (P : PP Z h n0 pf N f) (g : b = h.size) : ∀ i (p : Addr), i < N → pf i = .ref p → p ≠ b := fun i p hi e => Nat.ne_of_lt (Nat.lt_of_lt_of_le (P.page hi e).2.lt (Nat.le_of_eq g.symm))
theorem Av.neObj {Z : State} {h : Heap} {a b : Addr} {ty : FieldType} {z : Int32} {vs : List Value} {d : Value} {K : String} {n : Nat} {a0 : Array Value} (F : Av Z h a ty z vs d) (E : Exa Z h b K) (wi : (Cond.instantiable K n).before a0 Z = true) : a ≠ b := by
  obtain ⟨k, c, A, -⟩ := F
  exact Ne.symm (ne_arr E wi A)
theorem Arr.neTy {Z : State} {h : Heap} {a b : Addr} {c d : Cell} {t u : FieldType} (A : Arr Z h a c t) (B : Arr Z h b d u) (hne : t ≠ u) : a ≠ b := fun e => by
  subst e
  cases A.1.symm.trans B.1
  obtain ⟨-, k, h1, comp, h2⟩ := A.2.1
  obtain ⟨-, k', h1', comp', h2'⟩ := B.2.1
  cases h1.symm.trans h1'
  rw [h2] at h2'
  cases h2'
  exact hne rfl
theorem PP.neObj {Z : State} {h : Heap} {n0 : Nat} {pf : Nat → Value} {N : Nat} {f : Nat → Int32} {b : Addr} {K : String} {n : Nat} {a0 : Array Value} (P : PP Z h n0 pf N f) (E : Exa Z h b K) (wi : (Cond.instantiable K n).before a0 Z = true) : ∀ i (p : Addr), i < N → pf i = .ref p → p ≠ b := fun i p hi e => (P.page hi e).2.neObj E wi
theorem PP.neTab {Z : State} {h : Heap} {n0 : Nat} {pf : Nat → Value} {N : Nat} {f : Nat → Int32} {b : Addr} {k : ClassId} {z : Int32} {vs : List Value} {d : Value} (P : PP Z h n0 pf N f) (B : Arv Z h b k (.array .int) z vs d) : ∀ i (p : Addr), i < N → pf i = .ref p → p ≠ b := fun i p hi e => by
  obtain ⟨k', c, A, -⟩ := (P.page hi e).2
  obtain ⟨c', B', -⟩ := B
  exact Arr.neTy A B' (by simp)
/-- a label written into its page -/
theorem PP.write {Z : State} {h h' : Heap} {n0 : Nat} {pf : Nat → Value} {N : Nat} {f : Nat → Int32} {i j : Nat} {p : Addr} {l : Int32} (P : PP Z h n0 pf N f) (I : PI pf N) (hi : i < N) (e : pf i = .ref p) (hj : j < 64) (K : Keep h h' [p]) (V : Av Z h' p .int (64 : Int32) (lst (fupd (fun j => f (64 * i + j)) j l) 64) (.int (0 : Int32))) : PP Z h' n0 pf N (fupd f (64 * i + j) l) := fun i' hi' => by
  by_cases q : i' = i
  · subst q
    refine Or.inr ⟨p, e, (P.page hi' e).1, ?_⟩
    have c : lst (fun j' => fupd f (64 * i' + j) l (64 * i' + j')) 64 = lst (fupd (fun j => f (64 * i' + j)) j l) 64 := lst_congr fun t ht => by
      by_cases y : t = j
      · subst y; simp [fupd]
      · simp [fupd, y]
    rw [c]
    exact V
  · have c : ∀ t, t < 64 → fupd f (64 * i + j) l (64 * i' + t) = f (64 * i' + t) := fun t ht => by
      have y : ¬ (64 * i' + t = 64 * i + j) := by omega
      simp [fupd, y]
    rcases P i' hi' with ⟨a, b⟩ | ⟨p', a, b, d⟩
    · exact Or.inl ⟨a, fun t ht => by rw [c t ht]; exact b t ht⟩
    · refine Or.inr ⟨p', a, b, ?_⟩
      have ne : p' ≠ p := fun z => q (I i' i p hi' hi (z ▸ a) e)
      rw [lst_congr (f := fun t => fupd f (64 * i + j) l (64 * i' + t)) (g := fun t => f (64 * i' + t)) c]
      exact d.keep K (ninS ne nin0)
/-- a page made -/
theorem PP.make {Z : State} {h : Heap} {n0 : Nat} {pf : Nat → Value} {N : Nat} {f : Nat → Int32} {i : Nat} {p : Addr} (P : PP Z h n0 pf N f) (hi : i < N) (e : pf i = .null) (g : n0 ≤ p) (V : Av Z h p .int (64 : Int32) (lst (fun _ => 0) 64) (.int (0 : Int32))) : PP Z h n0 (fupdV pf i (.ref p)) N f := fun i' hi' => by
  by_cases q : i' = i
  · subst q
    refine Or.inr ⟨p, by simp [fupdV], g, ?_⟩
    rcases P i' hi' with ⟨-, b⟩ | ⟨p', a, -⟩
    · rw [lst_congr (f := fun j => f (64 * i' + j)) (g := fun _ => 0) b]; exact V
    · rw [e] at a; cases a
  · have y : fupdV pf i (.ref p) i' = pf i' := by simp [fupdV, q]
    rw [y]
    exact P i' hi'
theorem PI.make {pf : Nat → Value} {N : Nat} {i : Nat} {p : Addr} (I : PI pf N) (hne : ∀ i' (p' : Addr), i' < N → pf i' = .ref p' → p' ≠ p) : PI (fupdV pf i (.ref p)) N := fun i1 i2 p' h1 h2 e1 e2 => by
  simp only [fupdV] at e1 e2
  by_cases q1 : i1 = i
  · by_cases q2 : i2 = i
    · rw [q1, q2]
    · simp only [q1, q2, if_true, if_false] at e1 e2
      cases e1
      exact absurd rfl (hne i2 _ h2 e2)
  · by_cases q2 : i2 = i
    · simp only [q1, q2, if_true, if_false] at e1 e2
      cases e2
      exact absurd rfl (hne i1 _ h1 e1)
    · simp only [q1, q2, if_false] at e1 e2
      exact I i1 i2 p' h1 h2 e1 e2
def LabO (Z : State) (h : Heap) (n0 : Nat) (a : Addr) (n : Int32) : Prop := n0 ≤ a ∧ Exa Z h a "com/example/dispatchwave/dispatchwave/model/VertexLabels" ∧ Fld Z h a "com/example/dispatchwave/dispatchwave/model/VertexLabels" "vertexCount" "I" (.int n)
def LabA (Z : State) (h : Heap) (n0 : Nat) (a : Addr) (n : Int32) (f : Nat → Int32) : Prop := ∃ b : Addr, n0 ≤ b ∧ Fld Z h a "com/example/dispatchwave/dispatchwave/model/VertexLabels" "array" "[I" (.ref b) ∧ Av Z h b .int (n + 1) (lst f (n + 1).toNatClampNeg) (.int (0 : Int32))
def LabP (Z : State) (h : Heap) (n0 : Nat) (a : Addr) (n : Int32) (f : Nat → Int32) (mm : Int) (pf : Nat → Value) (cT : Addr) (mu : Int32) (kT : ClassId) : Prop := Fld Z h a "com/example/dispatchwave/dispatchwave/model/VertexLabels" "array" "[I" .null ∧ n0 ≤ cT ∧ Fld Z h a "com/example/dispatchwave/dispatchwave/model/VertexLabels" "pages" "[[I" (.ref cT) ∧ Fld Z h a "com/example/dispatchwave/dispatchwave/model/VertexLabels" "made" "I" (.int mu) ∧ (0 ≤ mu.toInt ∧ mu.toInt ≤ mm) ∧ Arv Z h cT kT (.array .int) (own_L n) (lstV pf (own_L n).toNatClampNeg) .null ∧ OvrA Z kT .int "[I" ∧ PP Z h n0 pf (own_L n).toNatClampNeg f ∧ PI pf (own_L n).toNatClampNeg
def Lab (Z : State) (h : Heap) (n0 : Nat) (a : Addr) (n : Int32) (f : Nat → Int32) (mm : Int) : Prop := LabO Z h n0 a n ∧ (LabA Z h n0 a n f ∨ ∃ pf cT mu kT, LabP Z h n0 a n f mm pf cT mu kT)
theorem own_cap {n mu : Int32} {M : Nat} (hM : M ≤ 2) (hn : OkN n) (hm : 0 ≤ mu.toInt ∧ mu.toInt ≤ M) (hc : (own_L n).toInt64 < (4 : Int64) * (mu + 1).toInt64) : (n + 1).toNatClampNeg ≤ 64 * (4 * M + 3) := by
  have e1 := own_L_i hn
  have o : (1 : Int32).toInt = 1 := rfl
  have e2 : (mu + 1).toInt = mu.toInt + 1 := by rw [Jvm.Kit.i32_add (by omega) (by omega), o]
  have f4 : (4 : Int64).toInt = 4 := by decide
  have e3 : ((4 : Int64) * (mu + 1).toInt64).toInt = 4 * (mu.toInt + 1) := by
    rw [Jvm.Kit.i64_mul (by rw [Int32.toInt_toInt64, e2, f4]; omega) (by rw [Int32.toInt_toInt64, e2, f4]; omega), Int32.toInt_toInt64, e2, f4]
  rw [Int64.lt_iff_toInt_lt, e3, Int32.toInt_toInt64, e1] at hc
  rw [own_n1n hn]
  have a := hn.1
  omega
def own_part (f : Nat → Int32) (i : Nat) : Nat → Int32 := fun t => if t < 64 * i then f t else 0
theorem part_zero (f : Nat → Int32) (N : Nat) : lst (own_part f 0) N = lst (fun _ => 0) N := lst_congr fun t _ => by simp [own_part]
theorem part_all {f : Nat → Int32} {n : Int32} (hn : OkN n) : lst (own_part f (own_L n).toInt.toNat) (n + 1).toNatClampNeg = lst f (n + 1).toNatClampNeg := lst_congr fun t ht => by
  rw [own_n1n hn] at ht
  have e := own_L_i hn
  have a := hn.1
  have y : t < 64 * (own_L n).toInt.toNat := by omega
  show (if t < 64 * (own_L n).toInt.toNat then f t else 0) = f t
  rw [if_pos y]
theorem part_null {f : Nat → Int32} {i N : Nat} (z : ∀ j, j < 64 → f (64 * i + j) = 0) : lst (own_part f i) N = lst (own_part f (i + 1)) N := lst_congr fun t _ => by
  by_cases y : t < 64 * i
  · have y2 : t < 64 * (i + 1) := by omega
    simp [own_part, y, y2]
  · by_cases y2 : t < 64 * (i + 1)
    · have q := z (t - 64 * i) (by omega)
      rw [show 64 * i + (t - 64 * i) = t by omega] at q
      simp [own_part, y, y2, q]
    · simp [own_part, y, y2]
theorem part_copy {f : Nat → Int32} {i N d cnt : Nat} (hd : d = 64 * i) (hc : cnt ≤ 64) (hN : d + cnt ≤ N) (hm : cnt = 64 ∨ d + cnt = N) : (lst (own_part f i) N).take d ++ ((List.range cnt).map fun j => (lst (fun j => f (64 * i + j)) 64).getD (0 + j) (.int (0 : Int32))) ++ (lst (own_part f i) N).drop (d + cnt) = lst (own_part f (i + 1)) N := by
  have l1 : ((lst (own_part f i) N).take d).length = d := by rw [List.length_take, lst_len]; omega
  have l2 : ((List.range cnt).map fun j => (lst (fun j => f (64 * i + j)) 64).getD (0 + j) (.int (0 : Int32))).length = cnt := by simp
  have at0 : ∀ (g : Nat → Int32) (t : Nat), t < N → (lst g N)[t]? = some (.int (g t)) := fun g t ht => by simp [lst, List.getElem?_map, List.getElem?_range, ht]
  apply List.ext_getElem?
  intro t
  by_cases ht : t < N
  · rw [at0 _ t ht]
    by_cases c1 : t < d
    · rw [List.append_assoc, List.getElem?_append_left (by omega), List.getElem?_take_of_lt c1, at0 _ t ht]
      have y1 : t < 64 * i := by omega
      have y2 : t < 64 * (i + 1) := by omega
      simp [own_part, y1, y2]
    · by_cases c2 : t < d + cnt
      · rw [List.getElem?_append_left (by rw [List.length_append]; omega), List.getElem?_append_right (by omega), l1, List.getElem?_map, List.getElem?_range (by omega), Option.map_some, Nat.zero_add, lst_at (by omega)]
        have y2 : t < 64 * (i + 1) := by omega
        have y3 : 64 * i + (t - d) = t := by omega
        simp [own_part, y2, y3]
      · rw [List.getElem?_append_right (by rw [List.length_append]; omega), List.length_append, l1, l2, List.getElem?_drop, show d + cnt + (t - (d + cnt)) = t by omega, at0 _ t ht]
        have y1 : ¬ t < 64 * i := by omega
        have y2 : ¬ t < 64 * (i + 1) := by omega
        simp [own_part, y1, y2]
  · rw [List.getElem?_eq_none (by simp only [List.length_append, l1, l2, List.length_drop, lst_len]; omega), List.getElem?_eq_none (by rw [lst_len]; omega)]
def own_min (x y : Int32) : Int32 := if y < x then y else x
theorem own_cp {n i : Int32} (hn : OkN n) (h0 : 0 ≤ i.toInt) (hi : i.toInt < (own_L n).toInt) : ¬ (i <<< ((6 : Int32) &&& 31)) < 0 ∧ ¬ own_min 64 ((n + 1) - (i <<< ((6 : Int32) &&& 31))) < 0 ∧ (i <<< ((6 : Int32) &&& 31)).toNatClampNeg = 64 * i.toInt.toNat ∧ (own_min 64 ((n + 1) - (i <<< ((6 : Int32) &&& 31)))).toNatClampNeg ≤ 64 ∧ 64 * i.toInt.toNat + (own_min 64 ((n + 1) - (i <<< ((6 : Int32) &&& 31)))).toNatClampNeg ≤ (n + 1).toNatClampNeg ∧ ((own_min 64 ((n + 1) - (i <<< ((6 : Int32) &&& 31)))).toNatClampNeg = 64 ∨ 64 * i.toInt.toNat + (own_min 64 ((n + 1) - (i <<< ((6 : Int32) &&& 31)))).toNatClampNeg = (n + 1).toNatClampNeg) := by
  have e := own_L_i hn
  obtain ⟨a, b⟩ := hn
  have s : (i <<< ((6 : Int32) &&& 31)).toInt = i.toInt * 2 ^ 6 := Jvm.Kit.i32_shl i ((6 : Int32) &&& 31) (k := 6) (by decide) (by omega) (by omega)
  have n1 := own_n1 (n := n) ⟨a, b⟩
  have n2 := own_n1n (n := n) ⟨a, b⟩
  have d : ((n + 1) - (i <<< ((6 : Int32) &&& 31))).toInt = n.toInt + 1 - i.toInt * 64 := by rw [Jvm.Kit.i32_sub (by omega) (by omega)]; omega
  have z : (0 : Int32).toInt = 0 := rfl
  have k : (64 : Int32).toInt = 64 := by decide
  have m : (own_min 64 ((n + 1) - (i <<< ((6 : Int32) &&& 31)))).toInt = if n.toInt + 1 - i.toInt * 64 < 64 then n.toInt + 1 - i.toInt * 64 else 64 := by
    unfold own_min
    by_cases y : ((n + 1) - (i <<< ((6 : Int32) &&& 31))) < 64
    · have y' := y
      rw [Int32.lt_iff_toInt_lt, d, k] at y'
      rw [if_pos y, if_pos y', d]
    · have y' := y
      rw [Int32.lt_iff_toInt_lt, d, k] at y'
      rw [if_neg y, if_neg y', k]
  have mn : (own_min 64 ((n + 1) - (i <<< ((6 : Int32) &&& 31)))).toNatClampNeg = (own_min 64 ((n + 1) - (i <<< ((6 : Int32) &&& 31)))).toInt.toNat := rfl
  have sn : (i <<< ((6 : Int32) &&& 31)).toNatClampNeg = (i <<< ((6 : Int32) &&& 31)).toInt.toNat := rfl
  rw [Int32.lt_iff_toInt_lt, Int32.lt_iff_toInt_lt, mn, sn, n2, s, m]
  split <;> (refine ⟨?_, ?_, ?_, ?_, ?_, ?_⟩ <;> omega)
def OneS (s : Slot) : Prop := s = .unset ∨ ∃ z : Int32, s = .val (.int z)
theorem own_li {n i : Int32} (hn : OkN n) (h0 : 0 ≤ i.toInt) (hi : i.toInt < (own_L n).toInt) : (¬ i < 0 ∧ i < own_L n) ∧ i.toNatClampNeg = i.toInt.toNat ∧ i.toInt.toNat < (own_L n).toNatClampNeg := by
  have z : (0 : Int32).toInt = 0 := rfl
  refine ⟨⟨?_, ?_⟩, rfl, ?_⟩
  · rw [Int32.lt_iff_toInt_lt]; omega
  · rw [Int32.lt_iff_toInt_lt]; exact hi
  · show i.toInt.toNat < (own_L n).toInt.toNat
    omega
theorem own_i1 {n i : Int32} (hn : OkN n) (h0 : 0 ≤ i.toInt) (hi : i.toInt < (own_L n).toInt) : (i + 1).toInt = i.toInt + 1 := by
  have o : (1 : Int32).toInt = 1 := rfl
  have e := own_L_i hn
  have b := hn.2
  rw [Jvm.Kit.i32_add (by omega) (by omega), o]
theorem own_mu1 {mu : Int32} {M : Int} (hM : M ≤ 2) (h : 0 ≤ mu.toInt ∧ mu.toInt ≤ M) : 0 ≤ (mu + 1).toInt ∧ (mu + 1).toInt ≤ M + 1 := by
  have o : (1 : Int32).toInt = 1 := rfl
  rw [Jvm.Kit.i32_add (by omega) (by omega), o]
  omega
def PgQ (Z : State) (h : Heap) (n0 : Nat) (a : Addr) (n : Int32) (i : Nat) (f : Nat → Int32) (mm : Int) (cT : Addr) (kT : ClassId) (v : Option Value) : Prop := (∃ (p : Addr) (pf : Nat → Value) (mu : Int32), v = some (.ref p) ∧ pf i = .ref p ∧ LabO Z h n0 a n ∧ LabP Z h n0 a n f mm pf cT mu kT) ∨ (v = some .null ∧ LabO Z h n0 a n ∧ LabA Z h n0 a n f)
theorem own_okp {Z : State} {n0 : Nat} {h h' : Heap} {b : Addr} (X : Old Z n0 h) (K : Keep h h' [b]) (q : n0 ≤ b) : Old Z n0 h' := X.keep K (allS q all0)
def own_vx (raw n : Int32) : Int32 := (raw &&& 2147483647) % n + 1
theorem own_vx_in {raw n : Int32} (hn : OkN n) : InN n (own_vx raw n) := by
  have e1 : (raw &&& 2147483647).toInt = raw.toInt % 2 ^ 31 := Jvm.Kit.i32_mask raw 2147483647 (k := 31) (by decide) (by decide)
  have e2 := Jvm.Kit.i32_rem_nonneg (x := raw &&& 2147483647) (y := n) (by omega)
  have a := hn.1
  have b := hn.2
  have r1 := Int.emod_nonneg (raw &&& 2147483647).toInt (show n.toInt ≠ 0 by omega)
  have r2 := Int.emod_lt_of_pos (raw &&& 2147483647).toInt (show 0 < n.toInt by omega)
  have o : (1 : Int32).toInt = 1 := rfl
  have e3 : (own_vx raw n).toInt = (raw &&& 2147483647).toInt % n.toInt + 1 := by
    show ((raw &&& 2147483647) % n + 1).toInt = _
    rw [Jvm.Kit.i32_add (by omega) (by omega), e2, o]
  unfold InN
  rw [e3]
  omega
theorem own_okn (x : Int32) : OkN ((x &&& 4095) + 1) := by
  have e : (x &&& 4095).toInt = x.toInt % 2 ^ 12 := Jvm.Kit.i32_mask x 4095 (k := 12) (by decide) (by decide)
  have o : (1 : Int32).toInt = 1 := rfl
  unfold OkN
  rw [Jvm.Kit.i32_add (by omega) (by omega), e, o]
  omega
theorem own_nz {n : Int32} (h : OkN n) : n ≠ 0 := fun e => by
  rw [e] at h
  have z : (0 : Int32).toInt = 0 := rfl
  have a := h.1
  omega
def own_exp (q v1 l1 v2 l2 v3 l3 : Int32) : Int32 := if q = v3 then l3 else if q = v2 then l2 else if q = v1 then l1 else 0
theorem own_key {n x y : Int32} (hx : InN n x) (hy : InN n y) : (x.toInt.toNat = y.toInt.toNat) ↔ x = y := by
  constructor
  · intro h
    apply Int32.toInt_inj.mp
    have a := hx.1
    have b := hy.1
    omega
  · intro h
    rw [h]
theorem own_fin {n q v1 v2 v3 : Int32} (hq : InN n q) (h1 : InN n v1) (h2 : InN n v2) (h3 : InN n v3) (l1 l2 l3 : Int32) : fupd (fupd (fupd (fun _ => 0) v1.toInt.toNat l1) v2.toInt.toNat l2) v3.toInt.toNat l3 q.toInt.toNat = own_exp q v1 l1 v2 l2 v3 l3 := by
  unfold fupd own_exp
  simp only [own_key hq h1, own_key hq h2, own_key hq h3]
theorem own_fin3 (v3 l3 : Int32) (g : Nat → Int32) : fupd g v3.toInt.toNat l3 v3.toInt.toNat = l3 := by simp [fupd]

theorem d1_0 : decode prog_32_method_1_code 0 = .ok (.aload_n 0, 1) := by decide +kernel
theorem d1_1 : decode prog_32_method_1_code 1 = .ok (.invokespecial 3, 3) := by decide +kernel
theorem d1_4 : decode prog_32_method_1_code 4 = .ok (.aload_n 0, 1) := by decide +kernel
theorem d1_5 : decode prog_32_method_1_code 5 = .ok (.iload_n 1, 1) := by decide +kernel
theorem d1_6 : decode prog_32_method_1_code 6 = .ok (.putfield 9, 3) := by decide +kernel
theorem d1_9 : decode prog_32_method_1_code 9 = .ok (.aload_n 0, 1) := by decide +kernel
theorem d1_10 : decode prog_32_method_1_code 10 = .ok (.iload_n 1, 1) := by decide +kernel
theorem d1_11 : decode prog_32_method_1_code 11 = .ok (.bipush 6, 2) := by decide +kernel
theorem d1_13 : decode prog_32_method_1_code 13 = .ok (.iushr, 1) := by decide +kernel
theorem d1_14 : decode prog_32_method_1_code 14 = .ok (.iconst 1, 1) := by decide +kernel
theorem d1_15 : decode prog_32_method_1_code 15 = .ok (.iadd, 1) := by decide +kernel
theorem d1_16 : decode prog_32_method_1_code 16 = .ok (.anewarray 13, 3) := by decide +kernel
theorem d1_19 : decode prog_32_method_1_code 19 = .ok (.putfield 15, 3) := by decide +kernel
theorem d1_22 : decode prog_32_method_1_code 22 = .ok (.return_, 1) := by decide +kernel
theorem pn_VertexLabels : plainName "com/example/dispatchwave/dispatchwave/model/VertexLabels" = true := by first | (simp [plainName, overriddenIn]; done) | decide +kernel
theorem ef_1 (m : MethodId) (x0 : Addr) (x1 : Int32) : entryFrame m #[(.ref x0), (.int x1)] 2 = mkF m 0 #[.val (.ref x0), .val (.int x1)] [] := by first | (simp [entryFrame, mkF, argsToLocals, Value.category]; done) | rfl
def Q1 (Z : State) (a1 : Addr) (n : Int32) (h0 : Heap) (n0 : Nat) (v : Option Value) (h : Heap) (L : List Loc) : Prop := v = none ∧ Fr n0 L ∧ Old Z n0 h ∧ n0 ≤ h.size ∧ Lab Z h n0 a1 n (fun _ => 0) 0
set_option maxRecDepth 65536 in
set_option maxHeartbeats 40000000 in
theorem rm1 (l : Launch) (Z : State) (a0 : Array Value) (hw : ∀ d ∈ tables_1, d.before a0 Z = true) (ws : List Jvm.Cond) (a1 : Addr) (n : Int32) (h0 : Heap) (n0 : Nat) (Z0 : n0 ≤ h0.size) (OLD : Old Z n0 h0) (E_1 : Exa Z h0 a1 "com/example/dispatchwave/dispatchwave/model/VertexLabels") (F_vertexCount : Fld Z h0 a1 "com/example/dispatchwave/dispatchwave/model/VertexLabels" "vertexCount" "I" (.int (0 : Int32))) (F_pages : Fld Z h0 a1 "com/example/dispatchwave/dispatchwave/model/VertexLabels" "pages" "[[I" .null) (F_array : Fld Z h0 a1 "com/example/dispatchwave/dispatchwave/model/VertexLabels" "array" "[I" .null) (F_made : Fld Z h0 a1 "com/example/dispatchwave/dispatchwave/model/VertexLabels" "made" "I" (.int (0 : Int32))) (g1 : n0 ≤ a1) (hn : OkN n) :
    MetFree l (⟨"com/example/dispatchwave/dispatchwave/model/VertexLabels", "<init>", "(I)V"⟩ : MethodName) (head1 (Jvm.Cond.code (⟨"com/example/dispatchwave/dispatchwave/model/VertexLabels", "<init>", "(I)V"⟩ : MethodName) prog_32_method_1_code 2 none :: ws) ({ frames := 1, cells := 1, slots := 65, locals := 12 } : Room)) (fun a U => a = #[(.ref a1), (.int n)] ∧ Z.Warmed39 U.vm ∧ U.heap = h0) (fun _ _ _ _ _ => True) (fun _ U o U' => ∃ v L, o = .returned v ∧ Q1 Z a1 n h0 n0 v U'.heap L ∧ FrameEnd U o U' L ({ frames := 1, cells := 1, slots := 65, locals := 12 } : Room).cells ({ frames := 1, cells := 1, slots := 65, locals := 12 } : Room).slots) := by
  refine MetFree.of_bodySF (plainFor_of_name pn_VertexLabels) hisR ?_
  intro p e s m args below meth c s₁ Bd hml0 hP hK
  obtain ⟨rfl, hZ, hh⟩ := hP
  have hx := Bd.exec
  have hby := Bd.bytes
  have hml : c.maxLocals = 2 := hml0
  have hown : s.vm.findClass "com/example/dispatchwave/dispatchwave/model/VertexLabels" = some m.cls := findClass_of_methodNamed Bd.named
  have hnm := (name_of_methodNamed Bd.named Bd.method).1
  have hlk : meth.locks = false := BodyLoose.notSynchronized Bd
  have hret := Bd.returns
  have X0 : Stand p l e ({ frames := 1, cells := 1, slots := 65, locals := 12 } : Room) s m #[(.ref a1), (.int n)] below meth c s₁ [] 0 0 := Stand.of_body Bd
  have e0 : s₁.heap = h0 := by rw [← hh, Bd.state]; rfl
  have N0 := Fr.nil n0
  refine ogo (U' := s₁.setTop (mkF m 0 #[.val (.ref a1), .val (.int n)] [])) (Q := Q1 Z a1 n h0 n0) (K := ({ frames := 1, cells := 1, slots := 65, locals := 12 } : Room).cells) (N := ({ frames := 1, cells := 1, slots := 65, locals := 12 } : Room).slots) (fun t k => castTop (ef_1 m a1 n) k) ?_
  show OwnEnds _ _ _ _ _ _ _ (s₁.setTop (mkF m 0 #[.val (.ref a1), .val (.int n)] []))
  refine ogo (fun t k => XS.aloadN X0.here hx rfl (hb hby d1_0) rfl rfl k) ?_
  show OwnEnds _ _ _ _ _ _ _ (s₁.setTop (mkF m 1 #[.val (.ref a1), .val (.int n)] [(.ref a1)]))
  obtain ⟨T1, X1, e1, st1⟩ := initO X0 hx hZ hown (hw _ (List.mem_of_getElem? (i := 11) rfl)) (hw _ (List.mem_of_getElem? (i := 12) rfl)) (hw _ (List.mem_of_getElem? (i := 13) rfl)) e0 (g := (mkF m 1 #[.val (.ref a1), .val (.int n)] [(.ref a1)])) rfl (by rw [hml]; rfl) rfl (hb hby d1_1) (by decide) (W := 0) (by show 2 * 0 + _ ≤ _; exact Nat.le_of_eq rfl) (by decide)
  refine ogo st1 ?_
  show OwnEnds _ _ _ _ _ _ _ (T1.setTop (mkF m 4 #[.val (.ref a1), .val (.int n)] []))
  refine ogo (fun t k => XS.aloadN X1.here hx rfl (hb hby d1_4) rfl rfl k) ?_
  show OwnEnds _ _ _ _ _ _ _ (T1.setTop (mkF m 5 #[.val (.ref a1), .val (.int n)] [(.ref a1)]))
  refine ogo (fun t k => XS.iloadN X1.here hx rfl (hb hby d1_5) rfl k) ?_
  show OwnEnds _ _ _ _ _ _ _ (T1.setTop (mkF m 6 #[.val (.ref a1), .val (.int n)] [(.int n), (.ref a1)]))
  obtain ⟨T2, h2, X2, e2, W2, st2⟩ := putF X1 hx hZ hown (host := "") (Or.inl (hw _ (List.mem_of_getElem? (i := 14) rfl))) Via.refl e1 F_vertexCount E_1 (Or.inr ⟨(hw _ (List.mem_of_getElem? (i := 15) rfl)), rfl, hnm⟩) (hw _ (List.mem_of_getElem? (i := 6) rfl)) (ty := .int) (by decide) rfl rfl (g := (mkF m 6 #[.val (.ref a1), .val (.int n)] [(.int n), (.ref a1)])) rfl rfl (hb hby d1_6)
  have f3 := E_1.wr W2
  have f4 := F_vertexCount.same W2
  have f5 := F_pages.other W2 (Or.inr (slot_ne (Or.inl (hw _ (List.mem_of_getElem? (i := 19) rfl))) (Or.inr (hw _ (List.mem_of_getElem? (i := 15) rfl))) (by decide) (t := (.array (.array .int))) (t' := .int) (by decide) (by decide)))
  have f6 := F_array.other W2 (Or.inr (slot_ne (Or.inl (hw _ (List.mem_of_getElem? (i := 26) rfl))) (Or.inr (hw _ (List.mem_of_getElem? (i := 15) rfl))) (by decide) (t := (.array .int)) (t' := .int) (by decide) (by decide)))
  have f7 := F_made.other W2 (Or.inr (slot_ne (Or.inl (hw _ (List.mem_of_getElem? (i := 38) rfl))) (Or.inr (hw _ (List.mem_of_getElem? (i := 15) rfl))) (by decide) (t := .int) (t' := .int) (by decide) (by decide)))
  have N8 := Fr.snoc X2 N0 g1
  have OLD8 := OLD.wr W2 g1
  have Z8 := Nat.le_trans Z0 (Nat.le_of_eq W2.size.symm)
  refine ogo st2 ?_
  show OwnEnds _ _ _ _ _ _ _ (T2.setTop (mkF m 9 #[.val (.ref a1), .val (.int n)] []))
  refine ogo (fun t k => XS.aloadN X2.here hx rfl (hb hby d1_9) rfl rfl k) ?_
  show OwnEnds _ _ _ _ _ _ _ (T2.setTop (mkF m 10 #[.val (.ref a1), .val (.int n)] [(.ref a1)]))
  refine ogo (fun t k => XS.iloadN X2.here hx rfl (hb hby d1_10) rfl k) ?_
  show OwnEnds _ _ _ _ _ _ _ (T2.setTop (mkF m 11 #[.val (.ref a1), .val (.int n)] [(.int n), (.ref a1)]))
  refine ogo (fun t k => XS.bipush X2.here hx rfl (hb hby d1_11) k) ?_
  show OwnEnds _ _ _ _ _ _ _ (T2.setTop (mkF m 13 #[.val (.ref a1), .val (.int n)] [(.int (6 : Int32)), (.int n), (.ref a1)]))
  refine ogo (fun t k => XS.iushr X2.here hx rfl (hb hby d1_13) rfl k) ?_
  show OwnEnds _ _ _ _ _ _ _ (T2.setTop (mkF m 14 #[.val (.ref a1), .val (.int n)] [(.int ((n.toUInt32 >>> ((6 : Int32) &&& 31).toUInt32).toInt32)), (.ref a1)]))
  refine ogo (fun t k => XS.iconst X2.here hx rfl (hb hby d1_14) k) ?_
  show OwnEnds _ _ _ _ _ _ _ (T2.setTop (mkF m 15 #[.val (.ref a1), .val (.int n)] [(.int (1 : Int32)), (.int ((n.toUInt32 >>> ((6 : Int32) &&& 31).toUInt32).toInt32)), (.ref a1)]))
  refine ogo (fun t k => XS.iadd X2.here hx rfl (hb hby d1_15) rfl k) ?_
  show OwnEnds _ _ _ _ _ _ _ (T2.setTop (mkF m 16 #[.val (.ref a1), .val (.int n)] [(.int (((n.toUInt32 >>> ((6 : Int32) &&& 31).toUInt32).toInt32) + (1 : Int32))), (.ref a1)]))
  obtain ⟨T9, h9, k9, X9, e9, E9, A9, B9, O9, st9⟩ := newRA X2 hx hZ hown (C := "[I") (ty := .int) (by decide) (hw _ (List.mem_of_getElem? (i := 16) rfl)) (hw _ (List.mem_of_getElem? (i := 17) rfl)) e2 (g := (mkF m 16 #[.val (.ref a1), .val (.int n)] [(.int (((n.toUInt32 >>> ((6 : Int32) &&& 31).toUInt32).toInt32) + (1 : Int32))), (.ref a1)])) rfl (hb hby d1_16) (n := own_L n) rfl (own_Lnn hn) (cap := 65) (own_Lcap hn) (by decide) (by decide) (by decide) (ad := "[[I") (by decide)
  obtain ⟨b9, g9⟩ : ∃ z, z = h2.size := ⟨_, rfl⟩
  rw [← g9] at A9 B9 st9
  have ne_a1_b9 : a1 ≠ b9 := Nat.ne_of_lt (Nat.lt_of_lt_of_le (f3).lt (Nat.le_of_eq g9.symm))
  have q_b9 : n0 ≤ b9 := Nat.le_trans Z8 (Nat.le_of_eq g9.symm)
  have f10 := f3.ext E9
  have f11 := f4.ext E9
  have f12 := f5.ext E9
  have f13 := f6.ext E9
  have f14 := f7.ext E9
  have OLD15 := OLD8.ext E9
  have Z15 := Nat.le_trans Z8 E9.1
  have V9 : Arv Z h9 b9 k9 (.array .int) (own_L n) (lstV (fun _ => .null) (own_L n).toNatClampNeg) .null := by
    have q := (Arv.new A9 (own_Lnn hn)).pad (pad_rep [] .null (own_L n).toNatClampNeg)
    rw [List.nil_append, lstV_rep] at q
    exact q
  refine ogo st9 ?_
  show OwnEnds _ _ _ _ _ _ _ (T9.setTop (mkF m 19 #[.val (.ref a1), .val (.int n)] [(.ref b9), (.ref a1)]))
  obtain ⟨T16, h16, X16, e16, W16, st16⟩ := putF X9 hx hZ hown (host := "") (Or.inl (hw _ (List.mem_of_getElem? (i := 18) rfl))) Via.refl e9 f12 f10 (Or.inl (hw _ (List.mem_of_getElem? (i := 19) rfl))) (hw _ (List.mem_of_getElem? (i := 6) rfl)) (ty := (.array (.array .int))) (by decide) rfl rfl (g := (mkF m 19 #[.val (.ref a1), .val (.int n)] [(.ref b9), (.ref a1)])) rfl rfl (hb hby d1_19)
  have nx17 : b9 ≠ a1 := (Ne.symm ne_a1_b9)
  have f18 := f10.wr W16
  have f19 := f11.other W16 (Or.inr (slot_ne (Or.inr (hw _ (List.mem_of_getElem? (i := 15) rfl))) (Or.inl (hw _ (List.mem_of_getElem? (i := 19) rfl))) (by decide) (t := .int) (t' := (.array (.array .int))) (by decide) (by decide)))
  have f20 := f12.same W16
  have f21 := f13.other W16 (Or.inr (slot_ne (Or.inl (hw _ (List.mem_of_getElem? (i := 26) rfl))) (Or.inl (hw _ (List.mem_of_getElem? (i := 19) rfl))) (by decide) (t := (.array .int)) (t' := (.array (.array .int))) (by decide) (by decide)))
  have f22 := f14.other W16 (Or.inr (slot_ne (Or.inl (hw _ (List.mem_of_getElem? (i := 38) rfl))) (Or.inl (hw _ (List.mem_of_getElem? (i := 19) rfl))) (by decide) (t := .int) (t' := (.array (.array .int))) (by decide) (by decide)))
  have f23 := V9.other W16 nx17
  have N24 := Fr.snoc X16 N8 g1
  have OLD24 := OLD15.wr W16 g1
  have Z24 := Nat.le_trans Z15 (Nat.le_of_eq W16.size.symm)
  refine ogo st16 ?_
  show OwnEnds _ _ _ _ _ _ _ (T16.setTop (mkF m 22 #[.val (.ref a1), .val (.int n)] []))
  refine endV X16 hx hlk hret (hb hby d1_22) (by decide) (by decide) ?_
  show Q1 Z a1 n h0 n0 _ T16.heap _
  rw [e16]
  exact ⟨rfl, N24, OLD24, Z24, ⟨g1, f18, f19⟩, Or.inr ⟨fun _ => .null, b9, 0, _, f21, q_b9, f20, f22, ⟨by decide, by decide⟩, f23, O9, fun i hi => Or.inl ⟨rfl, fun _ _ => rfl⟩, fun _ _ _ _ _ e _ => by cases e⟩⟩
theorem d2_0 : decode prog_32_method_2_code 0 = .ok (.aload_n 0, 1) := by decide +kernel
theorem d2_1 : decode prog_32_method_2_code 1 = .ok (.getfield 19, 3) := by decide +kernel
theorem d2_4 : decode prog_32_method_2_code 4 = .ok (.ifnull 13, 3) := by decide +kernel
theorem d2_7 : decode prog_32_method_2_code 7 = .ok (.aload_n 0, 1) := by decide +kernel
theorem d2_8 : decode prog_32_method_2_code 8 = .ok (.getfield 19, 3) := by decide +kernel
theorem d2_11 : decode prog_32_method_2_code 11 = .ok (.iload_n 1, 1) := by decide +kernel
theorem d2_12 : decode prog_32_method_2_code 12 = .ok (.iaload, 1) := by decide +kernel
theorem d2_13 : decode prog_32_method_2_code 13 = .ok (.istore_n 2, 1) := by decide +kernel
theorem d2_14 : decode prog_32_method_2_code 14 = .ok (.goto 28, 3) := by decide +kernel
theorem d2_17 : decode prog_32_method_2_code 17 = .ok (.aload_n 0, 1) := by decide +kernel
theorem d2_18 : decode prog_32_method_2_code 18 = .ok (.getfield 15, 3) := by decide +kernel
theorem d2_21 : decode prog_32_method_2_code 21 = .ok (.iload_n 1, 1) := by decide +kernel
theorem d2_22 : decode prog_32_method_2_code 22 = .ok (.bipush 6, 2) := by decide +kernel
theorem d2_24 : decode prog_32_method_2_code 24 = .ok (.iushr, 1) := by decide +kernel
theorem d2_25 : decode prog_32_method_2_code 25 = .ok (.aaload, 1) := by decide +kernel
theorem d2_26 : decode prog_32_method_2_code 26 = .ok (.astore_n 3, 1) := by decide +kernel
theorem d2_27 : decode prog_32_method_2_code 27 = .ok (.aload_n 3, 1) := by decide +kernel
theorem d2_28 : decode prog_32_method_2_code 28 = .ok (.ifnonnull 7, 3) := by decide +kernel
theorem d2_31 : decode prog_32_method_2_code 31 = .ok (.iconst 0, 1) := by decide +kernel
theorem d2_32 : decode prog_32_method_2_code 32 = .ok (.goto 9, 3) := by decide +kernel
theorem d2_35 : decode prog_32_method_2_code 35 = .ok (.aload_n 3, 1) := by decide +kernel
theorem d2_36 : decode prog_32_method_2_code 36 = .ok (.iload_n 1, 1) := by decide +kernel
theorem d2_37 : decode prog_32_method_2_code 37 = .ok (.bipush 63, 2) := by decide +kernel
theorem d2_39 : decode prog_32_method_2_code 39 = .ok (.iand, 1) := by decide +kernel
theorem d2_40 : decode prog_32_method_2_code 40 = .ok (.iaload, 1) := by decide +kernel
theorem d2_41 : decode prog_32_method_2_code 41 = .ok (.istore_n 2, 1) := by decide +kernel
theorem d2_42 : decode prog_32_method_2_code 42 = .ok (.iload_n 2, 1) := by decide +kernel
theorem d2_43 : decode prog_32_method_2_code 43 = .ok (.ireturn, 1) := by decide +kernel
theorem ef_2 (m : MethodId) (x0 : Addr) (x1 : Int32) : entryFrame m #[(.ref x0), (.int x1)] 4 = mkF m 0 #[.val (.ref x0), .val (.int x1), .unset, .unset] [] := by first | (simp [entryFrame, mkF, argsToLocals, Value.category]; done) | rfl
def Q2 (Z : State) (a1 : Addr) (iv n : Int32) (f : Nat → Int32) (mm : Int) (h0 : Heap) (n0 : Nat) (v : Option Value) (h : Heap) (L : List Loc) : Prop := v = some (.int (f iv.toInt.toNat)) ∧ Fr n0 L ∧ h = h0
set_option maxRecDepth 65536 in
set_option maxHeartbeats 40000000 in
theorem rm2 (l : Launch) (Z : State) (a0 : Array Value) (hw : ∀ d ∈ tables_1, d.before a0 Z = true) (ws : List Jvm.Cond) (a1 : Addr) (iv n : Int32) (f : Nat → Int32) (mm : Int) (h0 : Heap) (n0 : Nat) (Z0 : n0 ≤ h0.size) (hL : Lab Z h0 n0 a1 n f mm) (hn : OkN n) (hp : InN n iv) :
    MetFree l (⟨"com/example/dispatchwave/dispatchwave/model/VertexLabels", "get", "(I)I"⟩ : MethodName) (head1 (Jvm.Cond.code (⟨"com/example/dispatchwave/dispatchwave/model/VertexLabels", "get", "(I)I"⟩ : MethodName) prog_32_method_2_code 4 (some .int) :: ws) ({ frames := 0, cells := 0, slots := 0, locals := 0 } : Room)) (fun a U => a = #[(.ref a1), (.int iv)] ∧ Z.Warmed39 U.vm ∧ U.heap = h0) (fun _ _ _ _ _ => True) (fun _ U o U' => ∃ v L, o = .returned v ∧ Q2 Z a1 iv n f mm h0 n0 v U'.heap L ∧ FrameEnd U o U' L ({ frames := 0, cells := 0, slots := 0, locals := 0 } : Room).cells ({ frames := 0, cells := 0, slots := 0, locals := 0 } : Room).slots) := by
  refine MetFree.of_bodySF (plainFor_of_name pn_VertexLabels) hisR ?_
  intro p e s m args below meth c s₁ Bd hml0 hP hK
  obtain ⟨rfl, hZ, hh⟩ := hP
  have hx := Bd.exec
  have hby := Bd.bytes
  have hml : c.maxLocals = 4 := hml0
  have hown : s.vm.findClass "com/example/dispatchwave/dispatchwave/model/VertexLabels" = some m.cls := findClass_of_methodNamed Bd.named
  have hnm := (name_of_methodNamed Bd.named Bd.method).1
  have hlk : meth.locks = false := BodyLoose.notSynchronized Bd
  have hret := Bd.returns
  have X0 : Stand p l e ({ frames := 0, cells := 0, slots := 0, locals := 0 } : Room) s m #[(.ref a1), (.int iv)] below meth c s₁ [] 0 0 := Stand.of_body Bd
  have e0 : s₁.heap = h0 := by rw [← hh, Bd.state]; rfl
  have N0 := Fr.nil n0
  refine ogo (U' := s₁.setTop (mkF m 0 #[.val (.ref a1), .val (.int iv), .unset, .unset] [])) (Q := Q2 Z a1 iv n f mm h0 n0) (K := ({ frames := 0, cells := 0, slots := 0, locals := 0 } : Room).cells) (N := ({ frames := 0, cells := 0, slots := 0, locals := 0 } : Room).slots) (fun t k => castTop (ef_2 m a1 iv) k) ?_
  obtain ⟨⟨g1, E_1, F_n⟩, hm⟩ := hL
  rcases hm with ⟨b, gb, F_a, V_b⟩ | ⟨pf, cT, mu, kT, F_a, gc, F_p, F_m, hmu, V_c, O_c, PPh, PIh⟩
  · show OwnEnds _ _ _ _ _ _ _ (s₁.setTop (mkF m 0 #[.val (.ref a1), .val (.int iv), .unset, .unset] []))
    refine ogo (fun t k => XS.aloadN X0.here hx rfl (hb hby d2_0) rfl rfl k) ?_
    show OwnEnds _ _ _ _ _ _ _ (s₁.setTop (mkF m 1 #[.val (.ref a1), .val (.int iv), .unset, .unset] [(.ref a1)]))
    obtain ⟨T1, X1, e1, st1⟩ := getF X0 hx hZ hown (host := "") (Or.inl (hw _ (List.mem_of_getElem? (i := 25) rfl))) Via.refl e0 F_a (g := (mkF m 1 #[.val (.ref a1), .val (.int iv), .unset, .unset] [(.ref a1)])) rfl rfl (hb hby d2_1)
    refine ogo st1 ?_
    show OwnEnds _ _ _ _ _ _ _ (T1.setTop (mkF m 4 #[.val (.ref a1), .val (.int iv), .unset, .unset] [(.ref b)]))
    refine ogo (fun t k => XS.ifnullNo X1.here hx rfl (hb hby d2_4) rfl k) ?_
    show OwnEnds _ _ _ _ _ _ _ (T1.setTop (mkF m 7 #[.val (.ref a1), .val (.int iv), .unset, .unset] []))
    refine ogo (fun t k => XS.aloadN X1.here hx rfl (hb hby d2_7) rfl rfl k) ?_
    show OwnEnds _ _ _ _ _ _ _ (T1.setTop (mkF m 8 #[.val (.ref a1), .val (.int iv), .unset, .unset] [(.ref a1)]))
    obtain ⟨T2, X2, e2, st2⟩ := getF X1 hx hZ hown (host := "") (Or.inl (hw _ (List.mem_of_getElem? (i := 25) rfl))) Via.refl e1 F_a (g := (mkF m 8 #[.val (.ref a1), .val (.int iv), .unset, .unset] [(.ref a1)])) rfl rfl (hb hby d2_8)
    refine ogo st2 ?_
    show OwnEnds _ _ _ _ _ _ _ (T2.setTop (mkF m 11 #[.val (.ref a1), .val (.int iv), .unset, .unset] [(.ref b)]))
    refine ogo (fun t k => XS.iloadN X2.here hx rfl (hb hby d2_11) rfl k) ?_
    show OwnEnds _ _ _ _ _ _ _ (T2.setTop (mkF m 12 #[.val (.ref a1), .val (.int iv), .unset, .unset] [(.int iv), (.ref b)]))
    obtain ⟨ak3, cl3, Ar3, Aq3, As3, An3, Ah3, Ag3⟩ := id V_b
    refine ogo (fun t k => X2.iaload hx (j := iv) (v := (.int (f iv.toInt.toNat))) (by rw [e2]; exact Ar3.1) (State.isArrayOf_alike hZ.alike Ar3.2.1) Ar3.2.2 (inb_of As3 (own_pv hn hp).1) (Ah3.at (inb_of As3 (own_pv hn hp).1) (lst_at (own_pv hn hp).2)) (g := (mkF m 12 #[.val (.ref a1), .val (.int iv), .unset, .unset] [(.int iv), (.ref b)])) rfl rfl (hb hby d2_12) t k) ?_
    show OwnEnds _ _ _ _ _ _ _ (T2.setTop (mkF m 13 #[.val (.ref a1), .val (.int iv), .unset, .unset] [(.int (f iv.toInt.toNat))]))
    refine ogo (fun t k => XS.istoreN X2.here hx rfl (hb hby d2_13) rfl (l' := #[.val (.ref a1), .val (.int iv), .val (.int (f iv.toInt.toNat)), .unset]) rfl k) ?_
    show OwnEnds _ _ _ _ _ _ _ (T2.setTop (mkF m 14 #[.val (.ref a1), .val (.int iv), .val (.int (f iv.toInt.toNat)), .unset] []))
    refine ogo (fun t k => XS.goto X2.here hx rfl (pc0 := 14) (pc' := 42) rfl (hb hby d2_14) (by decide) (by decide) k) ?_
    show OwnEnds _ _ _ _ _ _ _ (T2.setTop (mkF m 42 #[.val (.ref a1), .val (.int iv), .val (.int (f iv.toInt.toNat)), .unset] []))
    refine ogo (fun t k => XS.iloadN X2.here hx rfl (hb hby d2_42) rfl k) ?_
    show OwnEnds _ _ _ _ _ _ _ (T2.setTop (mkF m 43 #[.val (.ref a1), .val (.int iv), .val (.int (f iv.toInt.toNat)), .unset] [(.int (f iv.toInt.toNat))]))
    refine endI X2 hx hlk hret (hb hby d2_43) (by decide) (by decide) ?_
    show Q2 Z a1 iv n f mm h0 n0 _ T2.heap _
    rw [e2]
    exact ⟨rfl, N0, rfl⟩
  · show OwnEnds _ _ _ _ _ _ _ (s₁.setTop (mkF m 0 #[.val (.ref a1), .val (.int iv), .unset, .unset] []))
    refine ogo (fun t k => XS.aloadN X0.here hx rfl (hb hby d2_0) rfl rfl k) ?_
    show OwnEnds _ _ _ _ _ _ _ (s₁.setTop (mkF m 1 #[.val (.ref a1), .val (.int iv), .unset, .unset] [(.ref a1)]))
    obtain ⟨T4, X4, e4, st4⟩ := getF X0 hx hZ hown (host := "") (Or.inl (hw _ (List.mem_of_getElem? (i := 25) rfl))) Via.refl e0 F_a (g := (mkF m 1 #[.val (.ref a1), .val (.int iv), .unset, .unset] [(.ref a1)])) rfl rfl (hb hby d2_1)
    refine ogo st4 ?_
    show OwnEnds _ _ _ _ _ _ _ (T4.setTop (mkF m 4 #[.val (.ref a1), .val (.int iv), .unset, .unset] [.null]))
    refine ogo (fun t k => XS.ifnullYes X4.here hx rfl (pc0 := 4) (pc' := 17) rfl (hb hby d2_4) rfl (by decide) (by decide) k) ?_
    show OwnEnds _ _ _ _ _ _ _ (T4.setTop (mkF m 17 #[.val (.ref a1), .val (.int iv), .unset, .unset] []))
    refine ogo (fun t k => XS.aloadN X4.here hx rfl (hb hby d2_17) rfl rfl k) ?_
    show OwnEnds _ _ _ _ _ _ _ (T4.setTop (mkF m 18 #[.val (.ref a1), .val (.int iv), .unset, .unset] [(.ref a1)]))
    obtain ⟨T5, X5, e5, st5⟩ := getF X4 hx hZ hown (host := "") (Or.inl (hw _ (List.mem_of_getElem? (i := 18) rfl))) Via.refl e4 F_p (g := (mkF m 18 #[.val (.ref a1), .val (.int iv), .unset, .unset] [(.ref a1)])) rfl rfl (hb hby d2_18)
    refine ogo st5 ?_
    show OwnEnds _ _ _ _ _ _ _ (T5.setTop (mkF m 21 #[.val (.ref a1), .val (.int iv), .unset, .unset] [(.ref cT)]))
    refine ogo (fun t k => XS.iloadN X5.here hx rfl (hb hby d2_21) rfl k) ?_
    show OwnEnds _ _ _ _ _ _ _ (T5.setTop (mkF m 22 #[.val (.ref a1), .val (.int iv), .unset, .unset] [(.int iv), (.ref cT)]))
    refine ogo (fun t k => XS.bipush X5.here hx rfl (hb hby d2_22) k) ?_
    show OwnEnds _ _ _ _ _ _ _ (T5.setTop (mkF m 24 #[.val (.ref a1), .val (.int iv), .unset, .unset] [(.int (6 : Int32)), (.int iv), (.ref cT)]))
    refine ogo (fun t k => XS.iushr X5.here hx rfl (hb hby d2_24) rfl k) ?_
    show OwnEnds _ _ _ _ _ _ _ (T5.setTop (mkF m 25 #[.val (.ref a1), .val (.int iv), .unset, .unset] [(.int ((iv.toUInt32 >>> ((6 : Int32) &&& 31).toUInt32).toInt32)), (.ref cT)]))
    obtain ⟨cl6, Ar6, Aq6, As6, An6, Ah6, Ag6⟩ := id V_c
    rcases PPh _ (own_pi hn hp).2.2 with ⟨e0t, z0t⟩ | ⟨p, e0t, g0t, V0t⟩
    · refine ogo (fun t k => X5.aaload hx (j := ((iv.toUInt32 >>> ((6 : Int32) &&& 31).toUInt32).toInt32)) (v := .null) (by rw [e5]; exact Ar6.1) (State.isArrayOf_alike hZ.alike Ar6.2.1) rfl Ar6.2.2 (inb_of As6 (own_pi hn hp).1) (Ah6.at (inb_of As6 (own_pi hn hp).1) ((congrArg (fun t => (lstV pf (own_L n).toNatClampNeg).getD t .null) (own_pi hn hp).2.1).trans ((lstV_at (own_pi hn hp).2.2).trans e0t))) (g := (mkF m 25 #[.val (.ref a1), .val (.int iv), .unset, .unset] [(.int ((iv.toUInt32 >>> ((6 : Int32) &&& 31).toUInt32).toInt32)), (.ref cT)])) rfl rfl (hb hby d2_25) t k) ?_
      show OwnEnds _ _ _ _ _ _ _ (T5.setTop (mkF m 26 #[.val (.ref a1), .val (.int iv), .unset, .unset] [.null]))
      refine ogo (fun t k => XS.astoreN X5.here hx rfl (hb hby d2_26) rfl rfl (l' := #[.val (.ref a1), .val (.int iv), .unset, .val .null]) rfl k) ?_
      show OwnEnds _ _ _ _ _ _ _ (T5.setTop (mkF m 27 #[.val (.ref a1), .val (.int iv), .unset, .val .null] []))
      refine ogo (fun t k => XS.aloadN X5.here hx rfl (hb hby d2_27) rfl rfl k) ?_
      show OwnEnds _ _ _ _ _ _ _ (T5.setTop (mkF m 28 #[.val (.ref a1), .val (.int iv), .unset, .val .null] [.null]))
      refine ogo (fun t k => XS.ifnonnullNo X5.here hx rfl (hb hby d2_28) rfl k) ?_
      show OwnEnds _ _ _ _ _ _ _ (T5.setTop (mkF m 31 #[.val (.ref a1), .val (.int iv), .unset, .val .null] []))
      refine ogo (fun t k => XS.iconst X5.here hx rfl (hb hby d2_31) k) ?_
      show OwnEnds _ _ _ _ _ _ _ (T5.setTop (mkF m 32 #[.val (.ref a1), .val (.int iv), .unset, .val .null] [(.int (0 : Int32))]))
      refine ogo (fun t k => XS.goto X5.here hx rfl (pc0 := 32) (pc' := 41) rfl (hb hby d2_32) (by decide) (by decide) k) ?_
      show OwnEnds _ _ _ _ _ _ _ (T5.setTop (mkF m 41 #[.val (.ref a1), .val (.int iv), .unset, .val .null] [(.int (0 : Int32))]))
      refine ogo (fun t k => XS.istoreN X5.here hx rfl (hb hby d2_41) rfl (l' := #[.val (.ref a1), .val (.int iv), .val (.int (0 : Int32)), .val .null]) rfl k) ?_
      show OwnEnds _ _ _ _ _ _ _ (T5.setTop (mkF m 42 #[.val (.ref a1), .val (.int iv), .val (.int (0 : Int32)), .val .null] []))
      refine ogo (fun t k => XS.iloadN X5.here hx rfl (hb hby d2_42) rfl k) ?_
      show OwnEnds _ _ _ _ _ _ _ (T5.setTop (mkF m 43 #[.val (.ref a1), .val (.int iv), .val (.int (0 : Int32)), .val .null] [(.int (0 : Int32))]))
      refine endI X5 hx hlk hret (hb hby d2_43) (by decide) (by decide) ?_
      show Q2 Z a1 iv n f mm h0 n0 _ T5.heap _
      rw [e5]
      have y := z0t (iv.toInt.toNat % 64) (Nat.mod_lt _ (by decide))
      rw [own_64] at y
      exact ⟨by rw [y], N0, rfl⟩
    · refine ogo (fun t k => X5.aaload hx (j := ((iv.toUInt32 >>> ((6 : Int32) &&& 31).toUInt32).toInt32)) (v := (.ref p)) (by rw [e5]; exact Ar6.1) (State.isArrayOf_alike hZ.alike Ar6.2.1) rfl Ar6.2.2 (inb_of As6 (own_pi hn hp).1) (Ah6.at (inb_of As6 (own_pi hn hp).1) ((congrArg (fun t => (lstV pf (own_L n).toNatClampNeg).getD t .null) (own_pi hn hp).2.1).trans ((lstV_at (own_pi hn hp).2.2).trans e0t))) (g := (mkF m 25 #[.val (.ref a1), .val (.int iv), .unset, .unset] [(.int ((iv.toUInt32 >>> ((6 : Int32) &&& 31).toUInt32).toInt32)), (.ref cT)])) rfl rfl (hb hby d2_25) t k) ?_
      show OwnEnds _ _ _ _ _ _ _ (T5.setTop (mkF m 26 #[.val (.ref a1), .val (.int iv), .unset, .unset] [(.ref p)]))
      refine ogo (fun t k => XS.astoreN X5.here hx rfl (hb hby d2_26) rfl rfl (l' := #[.val (.ref a1), .val (.int iv), .unset, .val (.ref p)]) rfl k) ?_
      show OwnEnds _ _ _ _ _ _ _ (T5.setTop (mkF m 27 #[.val (.ref a1), .val (.int iv), .unset, .val (.ref p)] []))
      refine ogo (fun t k => XS.aloadN X5.here hx rfl (hb hby d2_27) rfl rfl k) ?_
      show OwnEnds _ _ _ _ _ _ _ (T5.setTop (mkF m 28 #[.val (.ref a1), .val (.int iv), .unset, .val (.ref p)] [(.ref p)]))
      refine ogo (fun t k => XS.ifnonnullYes X5.here hx rfl (pc0 := 28) (pc' := 35) rfl (hb hby d2_28) rfl (by decide) (by decide) k) ?_
      show OwnEnds _ _ _ _ _ _ _ (T5.setTop (mkF m 35 #[.val (.ref a1), .val (.int iv), .unset, .val (.ref p)] []))
      refine ogo (fun t k => XS.aloadN X5.here hx rfl (hb hby d2_35) rfl rfl k) ?_
      show OwnEnds _ _ _ _ _ _ _ (T5.setTop (mkF m 36 #[.val (.ref a1), .val (.int iv), .unset, .val (.ref p)] [(.ref p)]))
      refine ogo (fun t k => XS.iloadN X5.here hx rfl (hb hby d2_36) rfl k) ?_
      show OwnEnds _ _ _ _ _ _ _ (T5.setTop (mkF m 37 #[.val (.ref a1), .val (.int iv), .unset, .val (.ref p)] [(.int iv), (.ref p)]))
      refine ogo (fun t k => XS.bipush X5.here hx rfl (hb hby d2_37) k) ?_
      show OwnEnds _ _ _ _ _ _ _ (T5.setTop (mkF m 39 #[.val (.ref a1), .val (.int iv), .unset, .val (.ref p)] [(.int (63 : Int32)), (.int iv), (.ref p)]))
      refine ogo (fun t k => XS.iand X5.here hx rfl (hb hby d2_39) rfl k) ?_
      show OwnEnds _ _ _ _ _ _ _ (T5.setTop (mkF m 40 #[.val (.ref a1), .val (.int iv), .unset, .val (.ref p)] [(.int (iv &&& (63 : Int32))), (.ref p)]))
      obtain ⟨ak8, cl8, Ar8, Aq8, As8, An8, Ah8, Ag8⟩ := id V0t
      refine ogo (fun t k => X5.iaload hx (j := (iv &&& (63 : Int32))) (v := (.int (f (64 * (iv.toInt.toNat / 64) + iv.toInt.toNat % 64)))) (by rw [e5]; exact Ar8.1) (State.isArrayOf_alike hZ.alike Ar8.2.1) Ar8.2.2 (inb_of As8 (own_pj iv hp.1).1) (Ah8.at (inb_of As8 (own_pj iv hp.1).1) (by rw [(own_pj iv hp.1).2]; exact lst_at (Nat.mod_lt _ (by decide)))) (g := (mkF m 40 #[.val (.ref a1), .val (.int iv), .unset, .val (.ref p)] [(.int (iv &&& (63 : Int32))), (.ref p)])) rfl rfl (hb hby d2_40) t k) ?_
      show OwnEnds _ _ _ _ _ _ _ (T5.setTop (mkF m 41 #[.val (.ref a1), .val (.int iv), .unset, .val (.ref p)] [(.int (f (64 * (iv.toInt.toNat / 64) + iv.toInt.toNat % 64)))]))
      refine ogo (fun t k => XS.istoreN X5.here hx rfl (hb hby d2_41) rfl (l' := #[.val (.ref a1), .val (.int iv), .val (.int (f (64 * (iv.toInt.toNat / 64) + iv.toInt.toNat % 64))), .val (.ref p)]) rfl k) ?_
      show OwnEnds _ _ _ _ _ _ _ (T5.setTop (mkF m 42 #[.val (.ref a1), .val (.int iv), .val (.int (f (64 * (iv.toInt.toNat / 64) + iv.toInt.toNat % 64))), .val (.ref p)] []))
      refine ogo (fun t k => XS.iloadN X5.here hx rfl (hb hby d2_42) rfl k) ?_
      show OwnEnds _ _ _ _ _ _ _ (T5.setTop (mkF m 43 #[.val (.ref a1), .val (.int iv), .val (.int (f (64 * (iv.toInt.toNat / 64) + iv.toInt.toNat % 64))), .val (.ref p)] [(.int (f (64 * (iv.toInt.toNat / 64) + iv.toInt.toNat % 64)))]))
      refine endI X5 hx hlk hret (hb hby d2_43) (by decide) (by decide) ?_
      show Q2 Z a1 iv n f mm h0 n0 _ T5.heap _
      rw [e5]
      exact ⟨by rw [own_64], N0, rfl⟩
theorem d3_0 : decode jdk_29_method_69_code 0 = .ok (.iload_n 0, 1) := by decide +kernel
theorem d3_1 : decode jdk_29_method_69_code 1 = .ok (.iload_n 1, 1) := by decide +kernel
theorem d3_2 : decode jdk_29_method_69_code 2 = .ok (.if_icmp .gt 7, 3) := by decide +kernel
theorem d3_5 : decode jdk_29_method_69_code 5 = .ok (.iload_n 0, 1) := by decide +kernel
theorem d3_6 : decode jdk_29_method_69_code 6 = .ok (.goto 4, 3) := by decide +kernel
theorem d3_9 : decode jdk_29_method_69_code 9 = .ok (.iload_n 1, 1) := by decide +kernel
theorem d3_10 : decode jdk_29_method_69_code 10 = .ok (.ireturn, 1) := by decide +kernel
theorem ef_3 (m : MethodId) (x0 : Int32) (x1 : Int32) : entryFrame m #[(.int x0), (.int x1)] 2 = mkF m 0 #[.val (.int x0), .val (.int x1)] [] := by first | (simp [entryFrame, mkF, argsToLocals, Value.category]; done) | rfl
def Q3 (Z : State) (x1 y1 : Int32) (h0 : Heap) (n0 : Nat) (v : Option Value) (h : Heap) (L : List Loc) : Prop := v = some (.int (own_min x1 y1)) ∧ Fr n0 L ∧ h = h0
set_option maxRecDepth 65536 in
set_option maxHeartbeats 40000000 in
theorem rm3 (l : Launch) (Z : State) (a0 : Array Value) (hw : ∀ d ∈ tables_1, d.before a0 Z = true) (ws : List Jvm.Cond) (x1 y1 : Int32) (h0 : Heap) (n0 : Nat) (Z0 : n0 ≤ h0.size) :
    MetFree l (⟨"java/lang/Math", "min", "(II)I"⟩ : MethodName) (head1 (Jvm.Cond.code (⟨"java/lang/Math", "min", "(II)I"⟩ : MethodName) jdk_29_method_69_code 2 (some .int) :: ws) ({ frames := 0, cells := 0, slots := 0, locals := 0 } : Room)) (fun a U => a = #[(.int x1), (.int y1)] ∧ Z.Warmed39 U.vm ∧ U.heap = h0) (fun _ _ _ _ _ => True) (fun _ U o U' => ∃ v L, o = .returned v ∧ Q3 Z x1 y1 h0 n0 v U'.heap L ∧ FrameEnd U o U' L ({ frames := 0, cells := 0, slots := 0, locals := 0 } : Room).cells ({ frames := 0, cells := 0, slots := 0, locals := 0 } : Room).slots) := by
  refine MetFree.of_bodySF (Jvm.Free.JP.mathPlain rfl (by decide +kernel)) hisR ?_
  intro p e s m args below meth c s₁ Bd hml0 hP hK
  obtain ⟨rfl, hZ, hh⟩ := hP
  have hx := Bd.exec
  have hby := Bd.bytes
  have hml : c.maxLocals = 2 := hml0
  have hown : s.vm.findClass "java/lang/Math" = some m.cls := findClass_of_methodNamed Bd.named
  have hnm := (name_of_methodNamed Bd.named Bd.method).1
  have hlk : meth.locks = false := BodyLoose.notSynchronized Bd
  have hret := Bd.returns
  have X0 : Stand p l e ({ frames := 0, cells := 0, slots := 0, locals := 0 } : Room) s m #[(.int x1), (.int y1)] below meth c s₁ [] 0 0 := Stand.of_body Bd
  have e0 : s₁.heap = h0 := by rw [← hh, Bd.state]; rfl
  have N0 := Fr.nil n0
  refine ogo (U' := s₁.setTop (mkF m 0 #[.val (.int x1), .val (.int y1)] [])) (Q := Q3 Z x1 y1 h0 n0) (K := ({ frames := 0, cells := 0, slots := 0, locals := 0 } : Room).cells) (N := ({ frames := 0, cells := 0, slots := 0, locals := 0 } : Room).slots) (fun t k => castTop (ef_3 m x1 y1) k) ?_
  show OwnEnds _ _ _ _ _ _ _ (s₁.setTop (mkF m 0 #[.val (.int x1), .val (.int y1)] []))
  refine ogo (fun t k => XS.iloadN X0.here hx rfl (hb hby d3_0) rfl k) ?_
  show OwnEnds _ _ _ _ _ _ _ (s₁.setTop (mkF m 1 #[.val (.int x1), .val (.int y1)] [(.int x1)]))
  refine ogo (fun t k => XS.iloadN X0.here hx rfl (hb hby d3_1) rfl k) ?_
  show OwnEnds _ _ _ _ _ _ _ (s₁.setTop (mkF m 2 #[.val (.int x1), .val (.int y1)] [(.int y1), (.int x1)]))
  by_cases hc1 : y1 < x1
  · refine ogo (fun t k => XS.icmpYes X0.here hx rfl (pc0 := 2) (pc' := 9) rfl (hb hby d3_2) rfl (tlt hc1).2.2.1 (by decide) (by decide) k) ?_
    show OwnEnds _ _ _ _ _ _ _ (s₁.setTop (mkF m 9 #[.val (.int x1), .val (.int y1)] []))
    refine ogo (fun t k => XS.iloadN X0.here hx rfl (hb hby d3_9) rfl k) ?_
    show OwnEnds _ _ _ _ _ _ _ (s₁.setTop (mkF m 10 #[.val (.int x1), .val (.int y1)] [(.int y1)]))
    refine endI X0 hx hlk hret (hb hby d3_10) (by decide) (by decide) ?_
    show Q3 Z x1 y1 h0 n0 _ s₁.heap _
    rw [e0]
    exact ⟨by simp [own_min, hc1], N0, rfl⟩
  · refine ogo (fun t k => XS.icmpNo X0.here hx rfl (hb hby d3_2) rfl (flt hc1).2.2.1 k) ?_
    show OwnEnds _ _ _ _ _ _ _ (s₁.setTop (mkF m 5 #[.val (.int x1), .val (.int y1)] []))
    refine ogo (fun t k => XS.iloadN X0.here hx rfl (hb hby d3_5) rfl k) ?_
    show OwnEnds _ _ _ _ _ _ _ (s₁.setTop (mkF m 6 #[.val (.int x1), .val (.int y1)] [(.int x1)]))
    refine ogo (fun t k => XS.goto X0.here hx rfl (pc0 := 6) (pc' := 10) rfl (hb hby d3_6) (by decide) (by decide) k) ?_
    show OwnEnds _ _ _ _ _ _ _ (s₁.setTop (mkF m 10 #[.val (.int x1), .val (.int y1)] [(.int x1)]))
    refine endI X0 hx hlk hret (hb hby d3_10) (by decide) (by decide) ?_
    show Q3 Z x1 y1 h0 n0 _ s₁.heap _
    rw [e0]
    exact ⟨by simp [own_min, hc1], N0, rfl⟩
theorem d40_0 : decode prog_32_method_4_code 0 = .ok (.aload_n 0, 1) := by decide +kernel
theorem d40_1 : decode prog_32_method_4_code 1 = .ok (.getfield 15, 3) := by decide +kernel
theorem d40_4 : decode prog_32_method_4_code 4 = .ok (.iload_n 1, 1) := by decide +kernel
theorem d40_5 : decode prog_32_method_4_code 5 = .ok (.aaload, 1) := by decide +kernel
theorem d40_6 : decode prog_32_method_4_code 6 = .ok (.astore_n 2, 1) := by decide +kernel
theorem d40_7 : decode prog_32_method_4_code 7 = .ok (.aload_n 2, 1) := by decide +kernel
theorem d40_8 : decode prog_32_method_4_code 8 = .ok (.ifnonnull 109, 3) := by decide +kernel
theorem d40_11 : decode prog_32_method_4_code 11 = .ok (.ldc2_w 26, 3) := by decide +kernel
theorem d40_14 : decode prog_32_method_4_code 14 = .ok (.aload_n 0, 1) := by decide +kernel
theorem d40_15 : decode prog_32_method_4_code 15 = .ok (.getfield 28, 3) := by decide +kernel
theorem d40_18 : decode prog_32_method_4_code 18 = .ok (.iconst 1, 1) := by decide +kernel
theorem d40_19 : decode prog_32_method_4_code 19 = .ok (.iadd, 1) := by decide +kernel
theorem d40_20 : decode prog_32_method_4_code 20 = .ok (.i2l, 1) := by decide +kernel
theorem d40_21 : decode prog_32_method_4_code 21 = .ok (.lmul, 1) := by decide +kernel
theorem d40_22 : decode prog_32_method_4_code 22 = .ok (.aload_n 0, 1) := by decide +kernel
theorem d40_23 : decode prog_32_method_4_code 23 = .ok (.getfield 15, 3) := by decide +kernel
theorem d40_26 : decode prog_32_method_4_code 26 = .ok (.arraylength, 1) := by decide +kernel
theorem d40_27 : decode prog_32_method_4_code 27 = .ok (.i2l, 1) := by decide +kernel
theorem d40_28 : decode prog_32_method_4_code 28 = .ok (.lcmp, 1) := by decide +kernel
theorem d40_29 : decode prog_32_method_4_code 29 = .ok (.ifCond .le 88, 3) := by decide +kernel
theorem d40_32 : decode prog_32_method_4_code 32 = .ok (.aload_n 0, 1) := by decide +kernel
theorem d40_33 : decode prog_32_method_4_code 33 = .ok (.aload_n 0, 1) := by decide +kernel
theorem d40_34 : decode prog_32_method_4_code 34 = .ok (.getfield 9, 3) := by decide +kernel
theorem d40_37 : decode prog_32_method_4_code 37 = .ok (.iconst 1, 1) := by decide +kernel
theorem d40_38 : decode prog_32_method_4_code 38 = .ok (.iadd, 1) := by decide +kernel
theorem d40_39 : decode prog_32_method_4_code 39 = .ok (.newarray .int, 2) := by decide +kernel
theorem d40_41 : decode prog_32_method_4_code 41 = .ok (.putfield 19, 3) := by decide +kernel
theorem d40_44 : decode prog_32_method_4_code 44 = .ok (.iconst 0, 1) := by decide +kernel
theorem d40_45 : decode prog_32_method_4_code 45 = .ok (.istore_n 3, 1) := by decide +kernel
theorem d40_46 : decode prog_32_method_4_code 46 = .ok (.iload_n 3, 1) := by decide +kernel
theorem d40_47 : decode prog_32_method_4_code 47 = .ok (.aload_n 0, 1) := by decide +kernel
theorem d40_48 : decode prog_32_method_4_code 48 = .ok (.getfield 15, 3) := by decide +kernel
theorem d40_51 : decode prog_32_method_4_code 51 = .ok (.arraylength, 1) := by decide +kernel
theorem d40_52 : decode prog_32_method_4_code 52 = .ok (.if_icmp .ge 57, 3) := by decide +kernel
theorem d40_55 : decode prog_32_method_4_code 55 = .ok (.aload_n 0, 1) := by decide +kernel
theorem d40_56 : decode prog_32_method_4_code 56 = .ok (.getfield 15, 3) := by decide +kernel
theorem d40_59 : decode prog_32_method_4_code 59 = .ok (.iload_n 3, 1) := by decide +kernel
theorem d40_60 : decode prog_32_method_4_code 60 = .ok (.aaload, 1) := by decide +kernel
theorem d40_61 : decode prog_32_method_4_code 61 = .ok (.ifnull 42, 3) := by decide +kernel
theorem d40_64 : decode prog_32_method_4_code 64 = .ok (.iload_n 3, 1) := by decide +kernel
theorem d40_65 : decode prog_32_method_4_code 65 = .ok (.bipush 6, 2) := by decide +kernel
theorem d40_67 : decode prog_32_method_4_code 67 = .ok (.ishl, 1) := by decide +kernel
theorem d40_68 : decode prog_32_method_4_code 68 = .ok (.istore 4, 2) := by decide +kernel
theorem d40_70 : decode prog_32_method_4_code 70 = .ok (.bipush 64, 2) := by decide +kernel
theorem d40_72 : decode prog_32_method_4_code 72 = .ok (.aload_n 0, 1) := by decide +kernel
theorem d40_73 : decode prog_32_method_4_code 73 = .ok (.getfield 19, 3) := by decide +kernel
theorem d40_76 : decode prog_32_method_4_code 76 = .ok (.arraylength, 1) := by decide +kernel
theorem d40_77 : decode prog_32_method_4_code 77 = .ok (.iload 4, 2) := by decide +kernel
theorem d40_79 : decode prog_32_method_4_code 79 = .ok (.isub, 1) := by decide +kernel
theorem d40_80 : decode prog_32_method_4_code 80 = .ok (.invokestatic 31, 3) := by decide +kernel
theorem d40_83 : decode prog_32_method_4_code 83 = .ok (.istore 5, 2) := by decide +kernel
theorem d40_85 : decode prog_32_method_4_code 85 = .ok (.aload_n 0, 1) := by decide +kernel
theorem d40_86 : decode prog_32_method_4_code 86 = .ok (.getfield 15, 3) := by decide +kernel
theorem d40_89 : decode prog_32_method_4_code 89 = .ok (.iload_n 3, 1) := by decide +kernel
theorem d40_90 : decode prog_32_method_4_code 90 = .ok (.aaload, 1) := by decide +kernel
theorem d40_91 : decode prog_32_method_4_code 91 = .ok (.iconst 0, 1) := by decide +kernel
theorem d40_92 : decode prog_32_method_4_code 92 = .ok (.aload_n 0, 1) := by decide +kernel
theorem d40_93 : decode prog_32_method_4_code 93 = .ok (.getfield 19, 3) := by decide +kernel
theorem d40_96 : decode prog_32_method_4_code 96 = .ok (.iload 4, 2) := by decide +kernel
theorem d40_98 : decode prog_32_method_4_code 98 = .ok (.iload 5, 2) := by decide +kernel
theorem d40_100 : decode prog_32_method_4_code 100 = .ok (.invokestatic 37, 3) := by decide +kernel
theorem d40_103 : decode prog_32_method_4_code 103 = .ok (.iinc 3 1, 3) := by decide +kernel
theorem d40_106 : decode prog_32_method_4_code 106 = .ok (.goto (-60), 3) := by decide +kernel
theorem d40_109 : decode prog_32_method_4_code 109 = .ok (.aload_n 0, 1) := by decide +kernel
theorem d40_110 : decode prog_32_method_4_code 110 = .ok (.aconst_null, 1) := by decide +kernel
theorem d40_111 : decode prog_32_method_4_code 111 = .ok (.putfield 15, 3) := by decide +kernel
theorem d40_114 : decode prog_32_method_4_code 114 = .ok (.goto 29, 3) := by decide +kernel
theorem d40_117 : decode prog_32_method_4_code 117 = .ok (.aload_n 2, 1) := by decide +kernel
theorem d40_118 : decode prog_32_method_4_code 118 = .ok (.ifnonnull 25, 3) := by decide +kernel
theorem d40_121 : decode prog_32_method_4_code 121 = .ok (.bipush 64, 2) := by decide +kernel
theorem d40_123 : decode prog_32_method_4_code 123 = .ok (.newarray .int, 2) := by decide +kernel
theorem d40_125 : decode prog_32_method_4_code 125 = .ok (.astore_n 2, 1) := by decide +kernel
theorem d40_126 : decode prog_32_method_4_code 126 = .ok (.aload_n 0, 1) := by decide +kernel
theorem d40_127 : decode prog_32_method_4_code 127 = .ok (.getfield 15, 3) := by decide +kernel
theorem d40_130 : decode prog_32_method_4_code 130 = .ok (.iload_n 1, 1) := by decide +kernel
theorem d40_131 : decode prog_32_method_4_code 131 = .ok (.aload_n 2, 1) := by decide +kernel
theorem d40_132 : decode prog_32_method_4_code 132 = .ok (.aastore, 1) := by decide +kernel
theorem d40_133 : decode prog_32_method_4_code 133 = .ok (.aload_n 0, 1) := by decide +kernel
theorem d40_134 : decode prog_32_method_4_code 134 = .ok (.dup, 1) := by decide +kernel
theorem d40_135 : decode prog_32_method_4_code 135 = .ok (.getfield 28, 3) := by decide +kernel
theorem d40_138 : decode prog_32_method_4_code 138 = .ok (.iconst 1, 1) := by decide +kernel
theorem d40_139 : decode prog_32_method_4_code 139 = .ok (.iadd, 1) := by decide +kernel
theorem d40_140 : decode prog_32_method_4_code 140 = .ok (.putfield 28, 3) := by decide +kernel
theorem d40_143 : decode prog_32_method_4_code 143 = .ok (.aload_n 2, 1) := by decide +kernel
theorem d40_144 : decode prog_32_method_4_code 144 = .ok (.areturn, 1) := by decide +kernel
theorem pd__II_I : parseMethodDescriptor "(II)I" = some ⟨[.int, .int], some .int⟩ := by decide +kernel
theorem ef_40 (m : MethodId) (x0 : Addr) (x1 : Int32) : entryFrame m #[(.ref x0), (.int x1)] 6 = mkF m 0 #[.val (.ref x0), .val (.int x1), .unset, .unset, .unset, .unset] [] := by first | (simp [entryFrame, mkF, argsToLocals, Value.category]; done) | rfl
def Q40 (Z : State) (a1 : Addr) (iv n : Int32) (f : Nat → Int32) (pf : Nat → Value) (cT : Addr) (mu : Int32) (kT : ClassId) (h0 : Heap) (n0 : Nat) (v : Option Value) (h : Heap) (L : List Loc) : Prop := Fr n0 L ∧ Old Z n0 h ∧ n0 ≤ h.size ∧ PgQ Z h n0 a1 n (iv.toInt.toNat / 64) f (0 + 1) cT kT v
set_option maxRecDepth 65536 in
set_option maxHeartbeats 40000000 in
theorem lp40 {p : Program} {l : Launch} {e : Env} {s : State} {m : MethodId} {args : Array Value} {below : List Frame} {meth : Method} {c : Code} (Z : State) (a0 : Array Value) (hw : ∀ d ∈ tables_1, d.before a0 Z = true) (a1 : Addr) (iv n : Int32) (f : Nat → Int32) (pf : Nat → Value) (cT : Addr) (mu : Int32) (kT : ClassId) (h0 : Heap) (n0 : Nat) (g1 : n0 ≤ a1) (gc : n0 ≤ cT) (hn : OkN n) (b : Addr) (kb : ClassId) (q_b : n0 ≤ b) (pn_b : ∀ i (p : Addr), i < (own_L n).toNatClampNeg → pf i = .ref p → p ≠ b) (ne_a : a1 ≠ b) (ne_c : cT ≠ b) (hx : p.tables.exec = Jvm.exec) (hZ : Z.Warmed39 s.vm) (hby : c.code = prog_32_method_4_code) (hml : c.maxLocals = 6) (hown : s.vm.findClass "com/example/dispatchwave/dispatchwave/model/VertexLabels" = some m.cls) (hnm : meth.name = "page") (hlk : meth.locks = false) (hret : meth.sig.returnType = some (.array .int)) :
    ∀ (kk : Nat) (T0 : State) (hh : Heap) (locs : List Loc) (i : Int32) (s4 s5 : Slot), OneS s4 → OneS s5 → 0 ≤ i.toInt → i.toInt + kk = (own_L n).toInt → Stand p l e ({ frames := 1, cells := 1, slots := 192, locals := 40 } : Room) s m args below meth c T0 locs 1 192 → T0.heap = hh → Fr n0 locs → Old Z n0 hh → n0 ≤ hh.size → Exa Z hh a1 "com/example/dispatchwave/dispatchwave/model/VertexLabels" → Fld Z hh a1 "com/example/dispatchwave/dispatchwave/model/VertexLabels" "vertexCount" "I" (.int n) → Fld Z hh a1 "com/example/dispatchwave/dispatchwave/model/VertexLabels" "array" "[I" (.ref b) → Fld Z hh a1 "com/example/dispatchwave/dispatchwave/model/VertexLabels" "pages" "[[I" (.ref cT) → Arv Z hh cT kT (.array .int) (own_L n) (lstV pf (own_L n).toNatClampNeg) .null → Arv Z hh b kb .int (n + 1) (lst (own_part f i.toInt.toNat) (n + 1).toNatClampNeg) (.int (0 : Int32)) → PP Z hh n0 pf (own_L n).toNatClampNeg f → OwnEnds p.tables e below s ({ frames := 1, cells := 1, slots := 192, locals := 40 } : Room).cells ({ frames := 1, cells := 1, slots := 192, locals := 40 } : Room).slots (Q40 Z a1 iv n f pf cT mu kT h0 n0) (T0.setTop (mkF m 46 #[.val (.ref a1), .val (.int (own_sh6 iv)), .val .null, .val (.int i), s4, s5] [])) := by
  intro kk
  induction kk with
  | zero =>
    intro T0 hh locs i s4 s5 hs4 hs5 hi0 hik X0 e0 N0 OLD0 Z0 E_1 F_n F_a F_p V_c V_b PP0
    show OwnEnds _ _ _ _ _ _ _ (T0.setTop (mkF m 46 #[.val (.ref a1), .val (.int (own_sh6 iv)), .val .null, .val (.int i), s4, s5] []))
    refine ogo (fun t k => XS.iloadN X0.here hx rfl (hb hby d40_46) rfl k) ?_
    show OwnEnds _ _ _ _ _ _ _ (T0.setTop (mkF m 47 #[.val (.ref a1), .val (.int (own_sh6 iv)), .val .null, .val (.int i), s4, s5] [(.int i)]))
    refine ogo (fun t k => XS.aloadN X0.here hx rfl (hb hby d40_47) rfl rfl k) ?_
    show OwnEnds _ _ _ _ _ _ _ (T0.setTop (mkF m 48 #[.val (.ref a1), .val (.int (own_sh6 iv)), .val .null, .val (.int i), s4, s5] [(.ref a1), (.int i)]))
    obtain ⟨T31, X31, e31, st31⟩ := getF X0 hx hZ hown (host := "") (Or.inl (hw _ (List.mem_of_getElem? (i := 18) rfl))) Via.refl e0 F_p (g := (mkF m 48 #[.val (.ref a1), .val (.int (own_sh6 iv)), .val .null, .val (.int i), s4, s5] [(.ref a1), (.int i)])) rfl rfl (hb hby d40_48)
    refine ogo st31 ?_
    show OwnEnds _ _ _ _ _ _ _ (T31.setTop (mkF m 51 #[.val (.ref a1), .val (.int (own_sh6 iv)), .val .null, .val (.int i), s4, s5] [(.ref cT), (.int i)]))
    obtain ⟨cl32, Ar32, Aq32, As32, An32, Ah32, Ag32⟩ := id V_c
    refine ogo (fun t k => X31.arraylength hx (by rw [e31]; exact Ar32.1) (State.isArrayOf_alike hZ.alike Ar32.2.1) (g := (mkF m 51 #[.val (.ref a1), .val (.int (own_sh6 iv)), .val .null, .val (.int i), s4, s5] [(.ref cT), (.int i)])) rfl rfl (hb hby d40_51) t k) ?_
    rw [len_of As32 An32]
    show OwnEnds _ _ _ _ _ _ _ (T31.setTop (mkF m 52 #[.val (.ref a1), .val (.int (own_sh6 iv)), .val .null, .val (.int i), s4, s5] [(.int (own_L n)), (.int i)]))
    refine ogo (fun t k => XS.icmpYes X31.here hx rfl (pc0 := 52) (pc' := 109) rfl (hb hby d40_52) rfl (flt (fun q => by rw [Int32.lt_iff_toInt_lt] at q; omega)).2.1 (by decide) (by decide) k) ?_
    show OwnEnds _ _ _ _ _ _ _ (T31.setTop (mkF m 109 #[.val (.ref a1), .val (.int (own_sh6 iv)), .val .null, .val (.int i), s4, s5] []))
    refine ogo (fun t k => XS.aloadN X31.here hx rfl (hb hby d40_109) rfl rfl k) ?_
    show OwnEnds _ _ _ _ _ _ _ (T31.setTop (mkF m 110 #[.val (.ref a1), .val (.int (own_sh6 iv)), .val .null, .val (.int i), s4, s5] [(.ref a1)]))
    refine ogo (fun t k => XS.aconstNull X31.here hx rfl (hb hby d40_110) k) ?_
    show OwnEnds _ _ _ _ _ _ _ (T31.setTop (mkF m 111 #[.val (.ref a1), .val (.int (own_sh6 iv)), .val .null, .val (.int i), s4, s5] [.null, (.ref a1)]))
    obtain ⟨T33, h33, X33, e33, W33, st33⟩ := putF X31 hx hZ hown (host := "") (Or.inl (hw _ (List.mem_of_getElem? (i := 18) rfl))) Via.refl e31 F_p E_1 (Or.inl (hw _ (List.mem_of_getElem? (i := 19) rfl))) (hw _ (List.mem_of_getElem? (i := 6) rfl)) (ty := (.array (.array .int))) (by decide) rfl rfl (g := (mkF m 111 #[.val (.ref a1), .val (.int (own_sh6 iv)), .val .null, .val (.int i), s4, s5] [.null, (.ref a1)])) rfl rfl (hb hby d40_111)
    have nx34 : cT ≠ a1 := (Av.neObj ⟨_, V_c⟩ E_1 (hw _ (List.mem_of_getElem? (i := 6) rfl)))
    have nx35 : b ≠ a1 := (Ne.symm ne_a)
    have f36 := E_1.wr W33
    have f37 := F_n.other W33 (Or.inr (slot_ne (Or.inr (hw _ (List.mem_of_getElem? (i := 15) rfl))) (Or.inl (hw _ (List.mem_of_getElem? (i := 19) rfl))) (by decide) (t := .int) (t' := (.array (.array .int))) (by decide) (by decide)))
    have f38 := F_a.other W33 (Or.inr (slot_ne (Or.inl (hw _ (List.mem_of_getElem? (i := 26) rfl))) (Or.inl (hw _ (List.mem_of_getElem? (i := 19) rfl))) (by decide) (t := (.array .int)) (t' := (.array (.array .int))) (by decide) (by decide)))
    have f39 := F_p.same W33
    have f40 := V_c.other W33 nx34
    have f41 := V_b.other W33 nx35
    have P42 := PP0.other W33 (PP0.neObj E_1 (hw _ (List.mem_of_getElem? (i := 6) rfl)))
    have N43 := Fr.snoc X33 N0 g1
    have OLD43 := OLD0.wr W33 g1
    have Z43 := Nat.le_trans Z0 (Nat.le_of_eq W33.size.symm)
    refine ogo st33 ?_
    show OwnEnds _ _ _ _ _ _ _ (T33.setTop (mkF m 114 #[.val (.ref a1), .val (.int (own_sh6 iv)), .val .null, .val (.int i), s4, s5] []))
    refine ogo (fun t k => XS.goto X33.here hx rfl (pc0 := 114) (pc' := 143) rfl (hb hby d40_114) (by decide) (by decide) k) ?_
    show OwnEnds _ _ _ _ _ _ _ (T33.setTop (mkF m 143 #[.val (.ref a1), .val (.int (own_sh6 iv)), .val .null, .val (.int i), s4, s5] []))
    refine ogo (fun t k => XS.aloadN X33.here hx rfl (hb hby d40_143) rfl rfl k) ?_
    show OwnEnds _ _ _ _ _ _ _ (T33.setTop (mkF m 144 #[.val (.ref a1), .val (.int (own_sh6 iv)), .val .null, .val (.int i), s4, s5] [.null]))
    refine endA X33 hx hlk hret rfl rfl (hb hby d40_144) (by decide) (by decide) ?_
    show Q40 Z a1 iv n f pf cT mu kT h0 n0 _ T33.heap _
    rw [e33]
    have Vf := f41
    rw [show i.toInt.toNat = (own_L n).toInt.toNat by omega, part_all hn] at Vf
    exact ⟨N43, OLD43, Z43, Or.inr ⟨rfl, ⟨g1, f36, f37⟩, b, q_b, f38, ⟨_, Vf⟩⟩⟩
  | succ kk ih =>
    intro T0 hh locs i s4 s5 hs4 hs5 hi0 hik X0 e0 N0 OLD0 Z0 E_1 F_n F_a F_p V_c V_b PP0
    have hlt : i.toInt < (own_L n).toInt := by omega
    have hi1 := own_i1 hn hi0 hlt
    show OwnEnds _ _ _ _ _ _ _ (T0.setTop (mkF m 46 #[.val (.ref a1), .val (.int (own_sh6 iv)), .val .null, .val (.int i), s4, s5] []))
    refine ogo (fun t k => XS.iloadN X0.here hx rfl (hb hby d40_46) rfl k) ?_
    show OwnEnds _ _ _ _ _ _ _ (T0.setTop (mkF m 47 #[.val (.ref a1), .val (.int (own_sh6 iv)), .val .null, .val (.int i), s4, s5] [(.int i)]))
    refine ogo (fun t k => XS.aloadN X0.here hx rfl (hb hby d40_47) rfl rfl k) ?_
    show OwnEnds _ _ _ _ _ _ _ (T0.setTop (mkF m 48 #[.val (.ref a1), .val (.int (own_sh6 iv)), .val .null, .val (.int i), s4, s5] [(.ref a1), (.int i)]))
    obtain ⟨T44, X44, e44, st44⟩ := getF X0 hx hZ hown (host := "") (Or.inl (hw _ (List.mem_of_getElem? (i := 18) rfl))) Via.refl e0 F_p (g := (mkF m 48 #[.val (.ref a1), .val (.int (own_sh6 iv)), .val .null, .val (.int i), s4, s5] [(.ref a1), (.int i)])) rfl rfl (hb hby d40_48)
    refine ogo st44 ?_
    show OwnEnds _ _ _ _ _ _ _ (T44.setTop (mkF m 51 #[.val (.ref a1), .val (.int (own_sh6 iv)), .val .null, .val (.int i), s4, s5] [(.ref cT), (.int i)]))
    obtain ⟨cl45, Ar45, Aq45, As45, An45, Ah45, Ag45⟩ := id V_c
    refine ogo (fun t k => X44.arraylength hx (by rw [e44]; exact Ar45.1) (State.isArrayOf_alike hZ.alike Ar45.2.1) (g := (mkF m 51 #[.val (.ref a1), .val (.int (own_sh6 iv)), .val .null, .val (.int i), s4, s5] [(.ref cT), (.int i)])) rfl rfl (hb hby d40_51) t k) ?_
    rw [len_of As45 An45]
    show OwnEnds _ _ _ _ _ _ _ (T44.setTop (mkF m 52 #[.val (.ref a1), .val (.int (own_sh6 iv)), .val .null, .val (.int i), s4, s5] [(.int (own_L n)), (.int i)]))
    refine ogo (fun t k => XS.icmpNo X44.here hx rfl (hb hby d40_52) rfl (tlt (Int32.lt_iff_toInt_lt.mpr hlt)).2.1 k) ?_
    show OwnEnds _ _ _ _ _ _ _ (T44.setTop (mkF m 55 #[.val (.ref a1), .val (.int (own_sh6 iv)), .val .null, .val (.int i), s4, s5] []))
    refine ogo (fun t k => XS.aloadN X44.here hx rfl (hb hby d40_55) rfl rfl k) ?_
    show OwnEnds _ _ _ _ _ _ _ (T44.setTop (mkF m 56 #[.val (.ref a1), .val (.int (own_sh6 iv)), .val .null, .val (.int i), s4, s5] [(.ref a1)]))
    obtain ⟨T46, X46, e46, st46⟩ := getF X44 hx hZ hown (host := "") (Or.inl (hw _ (List.mem_of_getElem? (i := 18) rfl))) Via.refl e44 F_p (g := (mkF m 56 #[.val (.ref a1), .val (.int (own_sh6 iv)), .val .null, .val (.int i), s4, s5] [(.ref a1)])) rfl rfl (hb hby d40_56)
    refine ogo st46 ?_
    show OwnEnds _ _ _ _ _ _ _ (T46.setTop (mkF m 59 #[.val (.ref a1), .val (.int (own_sh6 iv)), .val .null, .val (.int i), s4, s5] [(.ref cT)]))
    refine ogo (fun t k => XS.iloadN X46.here hx rfl (hb hby d40_59) rfl k) ?_
    show OwnEnds _ _ _ _ _ _ _ (T46.setTop (mkF m 60 #[.val (.ref a1), .val (.int (own_sh6 iv)), .val .null, .val (.int i), s4, s5] [(.int i), (.ref cT)]))
    obtain ⟨cl47, Ar47, Aq47, As47, An47, Ah47, Ag47⟩ := id V_c
    rcases PP0 _ (own_li hn hi0 hlt).2.2 with ⟨e0t, z0t⟩ | ⟨p, e0t, g0t, V0t⟩
    · refine ogo (fun t k => X46.aaload hx (j := i) (v := .null) (by rw [e46]; exact Ar47.1) (State.isArrayOf_alike hZ.alike Ar47.2.1) rfl Ar47.2.2 (inb_of As47 (own_li hn hi0 hlt).1) (Ah47.at (inb_of As47 (own_li hn hi0 hlt).1) ((congrArg (fun t => (lstV pf (own_L n).toNatClampNeg).getD t .null) (own_li hn hi0 hlt).2.1).trans ((lstV_at (own_li hn hi0 hlt).2.2).trans e0t))) (g := (mkF m 60 #[.val (.ref a1), .val (.int (own_sh6 iv)), .val .null, .val (.int i), s4, s5] [(.int i), (.ref cT)])) rfl rfl (hb hby d40_60) t k) ?_
      show OwnEnds _ _ _ _ _ _ _ (T46.setTop (mkF m 61 #[.val (.ref a1), .val (.int (own_sh6 iv)), .val .null, .val (.int i), s4, s5] [.null]))
      refine ogo (fun t k => XS.ifnullYes X46.here hx rfl (pc0 := 61) (pc' := 103) rfl (hb hby d40_61) rfl (by decide) (by decide) k) ?_
      show OwnEnds _ _ _ _ _ _ _ (T46.setTop (mkF m 103 #[.val (.ref a1), .val (.int (own_sh6 iv)), .val .null, .val (.int i), s4, s5] []))
      refine ogo (fun t k => XS.iinc X46.here hx rfl (hb hby d40_103) rfl (l' := #[.val (.ref a1), .val (.int (own_sh6 iv)), .val .null, .val (.int (i + (1 : Int32))), s4, s5]) rfl k) ?_
      show OwnEnds _ _ _ _ _ _ _ (T46.setTop (mkF m 106 #[.val (.ref a1), .val (.int (own_sh6 iv)), .val .null, .val (.int (i + (1 : Int32))), s4, s5] []))
      refine ogo (fun t k => XS.goto X46.here hx rfl (pc0 := 106) (pc' := 46) rfl (hb hby d40_106) (by decide) (by decide) k) ?_
      exact ih T46 hh _ (i + 1) (s4) (s5) hs4 hs5 (by rw [hi1]; omega) (by rw [hi1]; omega) X46 e46 N0 OLD0 Z0 E_1 F_n F_a F_p V_c (by rw [hi1, show (i.toInt + 1).toNat = i.toInt.toNat + 1 by omega, ← part_null z0t]; exact V_b) PP0
    · refine ogo (fun t k => X46.aaload hx (j := i) (v := (.ref p)) (by rw [e46]; exact Ar47.1) (State.isArrayOf_alike hZ.alike Ar47.2.1) rfl Ar47.2.2 (inb_of As47 (own_li hn hi0 hlt).1) (Ah47.at (inb_of As47 (own_li hn hi0 hlt).1) ((congrArg (fun t => (lstV pf (own_L n).toNatClampNeg).getD t .null) (own_li hn hi0 hlt).2.1).trans ((lstV_at (own_li hn hi0 hlt).2.2).trans e0t))) (g := (mkF m 60 #[.val (.ref a1), .val (.int (own_sh6 iv)), .val .null, .val (.int i), s4, s5] [(.int i), (.ref cT)])) rfl rfl (hb hby d40_60) t k) ?_
      show OwnEnds _ _ _ _ _ _ _ (T46.setTop (mkF m 61 #[.val (.ref a1), .val (.int (own_sh6 iv)), .val .null, .val (.int i), s4, s5] [(.ref p)]))
      refine ogo (fun t k => XS.ifnullNo X46.here hx rfl (hb hby d40_61) rfl k) ?_
      show OwnEnds _ _ _ _ _ _ _ (T46.setTop (mkF m 64 #[.val (.ref a1), .val (.int (own_sh6 iv)), .val .null, .val (.int i), s4, s5] []))
      refine ogo (fun t k => XS.iloadN X46.here hx rfl (hb hby d40_64) rfl k) ?_
      show OwnEnds _ _ _ _ _ _ _ (T46.setTop (mkF m 65 #[.val (.ref a1), .val (.int (own_sh6 iv)), .val .null, .val (.int i), s4, s5] [(.int i)]))
      refine ogo (fun t k => XS.bipush X46.here hx rfl (hb hby d40_65) k) ?_
      show OwnEnds _ _ _ _ _ _ _ (T46.setTop (mkF m 67 #[.val (.ref a1), .val (.int (own_sh6 iv)), .val .null, .val (.int i), s4, s5] [(.int (6 : Int32)), (.int i)]))
      refine ogo (fun t k => XS.ishl X46.here hx rfl (hb hby d40_67) rfl k) ?_
      show OwnEnds _ _ _ _ _ _ _ (T46.setTop (mkF m 68 #[.val (.ref a1), .val (.int (own_sh6 iv)), .val .null, .val (.int i), s4, s5] [(.int (i <<< ((6 : Int32) &&& 31)))]))
      refine ogo (fun t k => XS.istore X46.here hx rfl (hb hby d40_68) rfl (l' := #[.val (.ref a1), .val (.int (own_sh6 iv)), .val .null, .val (.int i), .val (.int (i <<< ((6 : Int32) &&& 31))), s5]) (by rcases hs4 with rfl | ⟨z, rfl⟩ <;> rfl) k) ?_
      show OwnEnds _ _ _ _ _ _ _ (T46.setTop (mkF m 70 #[.val (.ref a1), .val (.int (own_sh6 iv)), .val .null, .val (.int i), .val (.int (i <<< ((6 : Int32) &&& 31))), s5] []))
      refine ogo (fun t k => XS.bipush X46.here hx rfl (hb hby d40_70) k) ?_
      show OwnEnds _ _ _ _ _ _ _ (T46.setTop (mkF m 72 #[.val (.ref a1), .val (.int (own_sh6 iv)), .val .null, .val (.int i), .val (.int (i <<< ((6 : Int32) &&& 31))), s5] [(.int (64 : Int32))]))
      refine ogo (fun t k => XS.aloadN X46.here hx rfl (hb hby d40_72) rfl rfl k) ?_
      show OwnEnds _ _ _ _ _ _ _ (T46.setTop (mkF m 73 #[.val (.ref a1), .val (.int (own_sh6 iv)), .val .null, .val (.int i), .val (.int (i <<< ((6 : Int32) &&& 31))), s5] [(.ref a1), (.int (64 : Int32))]))
      obtain ⟨T49, X49, e49, st49⟩ := getF X46 hx hZ hown (host := "") (Or.inl (hw _ (List.mem_of_getElem? (i := 25) rfl))) Via.refl e46 F_a (g := (mkF m 73 #[.val (.ref a1), .val (.int (own_sh6 iv)), .val .null, .val (.int i), .val (.int (i <<< ((6 : Int32) &&& 31))), s5] [(.ref a1), (.int (64 : Int32))])) rfl rfl (hb hby d40_73)
      refine ogo st49 ?_
      show OwnEnds _ _ _ _ _ _ _ (T49.setTop (mkF m 76 #[.val (.ref a1), .val (.int (own_sh6 iv)), .val .null, .val (.int i), .val (.int (i <<< ((6 : Int32) &&& 31))), s5] [(.ref b), (.int (64 : Int32))]))
      obtain ⟨cl50, Ar50, Aq50, As50, An50, Ah50, Ag50⟩ := id V_b
      refine ogo (fun t k => X49.arraylength hx (by rw [e49]; exact Ar50.1) (State.isArrayOf_alike hZ.alike Ar50.2.1) (g := (mkF m 76 #[.val (.ref a1), .val (.int (own_sh6 iv)), .val .null, .val (.int i), .val (.int (i <<< ((6 : Int32) &&& 31))), s5] [(.ref b), (.int (64 : Int32))])) rfl rfl (hb hby d40_76) t k) ?_
      rw [len_of As50 An50]
      show OwnEnds _ _ _ _ _ _ _ (T49.setTop (mkF m 77 #[.val (.ref a1), .val (.int (own_sh6 iv)), .val .null, .val (.int i), .val (.int (i <<< ((6 : Int32) &&& 31))), s5] [(.int (n + 1)), (.int (64 : Int32))]))
      refine ogo (fun t k => XS.iload X49.here hx rfl (hb hby d40_77) rfl k) ?_
      show OwnEnds _ _ _ _ _ _ _ (T49.setTop (mkF m 79 #[.val (.ref a1), .val (.int (own_sh6 iv)), .val .null, .val (.int i), .val (.int (i <<< ((6 : Int32) &&& 31))), s5] [(.int (i <<< ((6 : Int32) &&& 31))), (.int (n + 1)), (.int (64 : Int32))]))
      refine ogo (fun t k => XS.isub X49.here hx rfl (hb hby d40_79) rfl k) ?_
      show OwnEnds _ _ _ _ _ _ _ (T49.setTop (mkF m 80 #[.val (.ref a1), .val (.int (own_sh6 iv)), .val .null, .val (.int i), .val (.int (i <<< ((6 : Int32) &&& 31))), s5] [(.int ((n + 1) - (i <<< ((6 : Int32) &&& 31)))), (.int (64 : Int32))]))
      obtain ⟨v51, _, ⟨T51, L51, k51, n51⟩, -, X51, ⟨Lc51, hQ51, l51, y51, z51⟩, st51⟩ := Jvm.LawKit.callS X49 hx (y := (⟨"java/lang/Math", "min", "(II)I"⟩ : MethodName)) hown (mvT hZ (hw _ (List.mem_of_getElem? (i := 44) rfl))) (mvT hZ (hw _ (List.mem_of_getElem? (i := 45) rfl))) (mvT hZ (hw _ (List.mem_of_getElem? (i := 46) rfl))) (mvT hZ (hw _ (List.mem_of_getElem? (i := 47) rfl))) (by decide) (backOf (W := 0) (rm3 l Z a0 hw [] (64 : Int32) ((n + 1) - (i <<< ((6 : Int32) &&& 31))) hh n0 Z0 ) hZ (hw _ (List.mem_of_getElem? (i := 47) rfl)) (hw _ (List.mem_of_getElem? (i := 46) rfl)) (by decide) (by decide)) (g := (mkF m 80 #[.val (.ref a1), .val (.int (own_sh6 iv)), .val .null, .val (.int i), .val (.int (i <<< ((6 : Int32) &&& 31))), s5] [(.int ((n + 1) - (i <<< ((6 : Int32) &&& 31)))), (.int (64 : Int32))])) rfl (by rw [hml]; rfl) (argsL := [(.int (64 : Int32)), (.int ((n + 1) - (i <<< ((6 : Int32) &&& 31))))]) (rest := []) (lenOf pd__II_I rfl) rfl (by show 2 * 0 + _ ≤ _; exact Nat.le_of_eq rfl) (hb hby d40_80) (fun _ _ => ⟨rfl, e49, (by decide : 1 + 0 ≤ _), (by decide : 192 + 0 ≤ _)⟩)
      dsimp only [Pt.U, Pt.locs, Pt.cells, Pt.slots] at X51 l51 y51 z51 st51 hQ51
      subst l51 y51 z51
      obtain ⟨rfl, N51q, e51⟩ := hQ51
      have N51 := Fr.app N0 N51q
      refine ogo (fun t k => st51 t k) ?_
      show OwnEnds _ _ _ _ _ _ _ (T51.setTop (mkF m 83 #[.val (.ref a1), .val (.int (own_sh6 iv)), .val .null, .val (.int i), .val (.int (i <<< ((6 : Int32) &&& 31))), s5] [(.int (own_min (64 : Int32) ((n + 1) - (i <<< ((6 : Int32) &&& 31)))))]))
      refine ogo (fun t k => XS.istore X51.here hx rfl (hb hby d40_83) rfl (l' := #[.val (.ref a1), .val (.int (own_sh6 iv)), .val .null, .val (.int i), .val (.int (i <<< ((6 : Int32) &&& 31))), .val (.int (own_min (64 : Int32) ((n + 1) - (i <<< ((6 : Int32) &&& 31)))))]) (by rcases hs5 with rfl | ⟨z, rfl⟩ <;> rfl) k) ?_
      show OwnEnds _ _ _ _ _ _ _ (T51.setTop (mkF m 85 #[.val (.ref a1), .val (.int (own_sh6 iv)), .val .null, .val (.int i), .val (.int (i <<< ((6 : Int32) &&& 31))), .val (.int (own_min (64 : Int32) ((n + 1) - (i <<< ((6 : Int32) &&& 31)))))] []))
      refine ogo (fun t k => XS.aloadN X51.here hx rfl (hb hby d40_85) rfl rfl k) ?_
      show OwnEnds _ _ _ _ _ _ _ (T51.setTop (mkF m 86 #[.val (.ref a1), .val (.int (own_sh6 iv)), .val .null, .val (.int i), .val (.int (i <<< ((6 : Int32) &&& 31))), .val (.int (own_min (64 : Int32) ((n + 1) - (i <<< ((6 : Int32) &&& 31)))))] [(.ref a1)]))
      obtain ⟨T52, X52, e52, st52⟩ := getF X51 hx hZ hown (host := "") (Or.inl (hw _ (List.mem_of_getElem? (i := 18) rfl))) Via.refl e51 F_p (g := (mkF m 86 #[.val (.ref a1), .val (.int (own_sh6 iv)), .val .null, .val (.int i), .val (.int (i <<< ((6 : Int32) &&& 31))), .val (.int (own_min (64 : Int32) ((n + 1) - (i <<< ((6 : Int32) &&& 31)))))] [(.ref a1)])) rfl rfl (hb hby d40_86)
      refine ogo st52 ?_
      show OwnEnds _ _ _ _ _ _ _ (T52.setTop (mkF m 89 #[.val (.ref a1), .val (.int (own_sh6 iv)), .val .null, .val (.int i), .val (.int (i <<< ((6 : Int32) &&& 31))), .val (.int (own_min (64 : Int32) ((n + 1) - (i <<< ((6 : Int32) &&& 31)))))] [(.ref cT)]))
      refine ogo (fun t k => XS.iloadN X52.here hx rfl (hb hby d40_89) rfl k) ?_
      show OwnEnds _ _ _ _ _ _ _ (T52.setTop (mkF m 90 #[.val (.ref a1), .val (.int (own_sh6 iv)), .val .null, .val (.int i), .val (.int (i <<< ((6 : Int32) &&& 31))), .val (.int (own_min (64 : Int32) ((n + 1) - (i <<< ((6 : Int32) &&& 31)))))] [(.int i), (.ref cT)]))
      obtain ⟨cl53, Ar53, Aq53, As53, An53, Ah53, Ag53⟩ := id V_c
      refine ogo (fun t k => X52.aaload hx (j := i) (v := (.ref p)) (by rw [e52]; exact Ar53.1) (State.isArrayOf_alike hZ.alike Ar53.2.1) rfl Ar53.2.2 (inb_of As53 (own_li hn hi0 hlt).1) (Ah53.at (inb_of As53 (own_li hn hi0 hlt).1) ((congrArg (fun t => (lstV pf (own_L n).toNatClampNeg).getD t .null) (own_li hn hi0 hlt).2.1).trans ((lstV_at (own_li hn hi0 hlt).2.2).trans e0t))) (g := (mkF m 90 #[.val (.ref a1), .val (.int (own_sh6 iv)), .val .null, .val (.int i), .val (.int (i <<< ((6 : Int32) &&& 31))), .val (.int (own_min (64 : Int32) ((n + 1) - (i <<< ((6 : Int32) &&& 31)))))] [(.int i), (.ref cT)])) rfl rfl (hb hby d40_90) t k) ?_
      show OwnEnds _ _ _ _ _ _ _ (T52.setTop (mkF m 91 #[.val (.ref a1), .val (.int (own_sh6 iv)), .val .null, .val (.int i), .val (.int (i <<< ((6 : Int32) &&& 31))), .val (.int (own_min (64 : Int32) ((n + 1) - (i <<< ((6 : Int32) &&& 31)))))] [(.ref p)]))
      refine ogo (fun t k => XS.iconst X52.here hx rfl (hb hby d40_91) k) ?_
      show OwnEnds _ _ _ _ _ _ _ (T52.setTop (mkF m 92 #[.val (.ref a1), .val (.int (own_sh6 iv)), .val .null, .val (.int i), .val (.int (i <<< ((6 : Int32) &&& 31))), .val (.int (own_min (64 : Int32) ((n + 1) - (i <<< ((6 : Int32) &&& 31)))))] [(.int (0 : Int32)), (.ref p)]))
      refine ogo (fun t k => XS.aloadN X52.here hx rfl (hb hby d40_92) rfl rfl k) ?_
      show OwnEnds _ _ _ _ _ _ _ (T52.setTop (mkF m 93 #[.val (.ref a1), .val (.int (own_sh6 iv)), .val .null, .val (.int i), .val (.int (i <<< ((6 : Int32) &&& 31))), .val (.int (own_min (64 : Int32) ((n + 1) - (i <<< ((6 : Int32) &&& 31)))))] [(.ref a1), (.int (0 : Int32)), (.ref p)]))
      obtain ⟨T55, X55, e55, st55⟩ := getF X52 hx hZ hown (host := "") (Or.inl (hw _ (List.mem_of_getElem? (i := 25) rfl))) Via.refl e52 F_a (g := (mkF m 93 #[.val (.ref a1), .val (.int (own_sh6 iv)), .val .null, .val (.int i), .val (.int (i <<< ((6 : Int32) &&& 31))), .val (.int (own_min (64 : Int32) ((n + 1) - (i <<< ((6 : Int32) &&& 31)))))] [(.ref a1), (.int (0 : Int32)), (.ref p)])) rfl rfl (hb hby d40_93)
      refine ogo st55 ?_
      show OwnEnds _ _ _ _ _ _ _ (T55.setTop (mkF m 96 #[.val (.ref a1), .val (.int (own_sh6 iv)), .val .null, .val (.int i), .val (.int (i <<< ((6 : Int32) &&& 31))), .val (.int (own_min (64 : Int32) ((n + 1) - (i <<< ((6 : Int32) &&& 31)))))] [(.ref b), (.int (0 : Int32)), (.ref p)]))
      refine ogo (fun t k => XS.iload X55.here hx rfl (hb hby d40_96) rfl k) ?_
      show OwnEnds _ _ _ _ _ _ _ (T55.setTop (mkF m 98 #[.val (.ref a1), .val (.int (own_sh6 iv)), .val .null, .val (.int i), .val (.int (i <<< ((6 : Int32) &&& 31))), .val (.int (own_min (64 : Int32) ((n + 1) - (i <<< ((6 : Int32) &&& 31)))))] [(.int (i <<< ((6 : Int32) &&& 31))), (.ref b), (.int (0 : Int32)), (.ref p)]))
      refine ogo (fun t k => XS.iload X55.here hx rfl (hb hby d40_98) rfl k) ?_
      show OwnEnds _ _ _ _ _ _ _ (T55.setTop (mkF m 100 #[.val (.ref a1), .val (.int (own_sh6 iv)), .val .null, .val (.int i), .val (.int (i <<< ((6 : Int32) &&& 31))), .val (.int (own_min (64 : Int32) ((n + 1) - (i <<< ((6 : Int32) &&& 31)))))] [(.int (own_min (64 : Int32) ((n + 1) - (i <<< ((6 : Int32) &&& 31))))), (.int (i <<< ((6 : Int32) &&& 31))), (.ref b), (.int (0 : Int32)), (.ref p)]))
      have hcp := own_cp hn hi0 hlt
      obtain ⟨kp56, Vs56⟩ := id V0t
      obtain ⟨T56, h56, L56, X56, e56, N56, K56, Vb56, st56⟩ := cpA X55 hx hZ hown (hw _ (List.mem_of_getElem? (i := 48) rfl)) (hw _ (List.mem_of_getElem? (i := 51) rfl)) (hw _ (List.mem_of_getElem? (i := 49) rfl)) (hw _ (List.mem_of_getElem? (i := 50) rfl)) e55 Vs56 V_b (Or.inl ⟨rfl, rfl⟩) (sp := (0 : Int32)) (dp := (i <<< ((6 : Int32) &&& 31))) (nn := (own_min (64 : Int32) ((n + 1) - (i <<< ((6 : Int32) &&& 31))))) (by decide) hcp.1 hcp.2.1 (by show 0 + _ ≤ 64; rw [Nat.zero_add]; exact hcp.2.2.2.1) (by rw [hcp.2.2.1]; exact hcp.2.2.2.2.1) rfl (by rw [lst_len, hcp.2.2.1]; exact hcp.2.2.2.2.1) N51 q_b (g := (mkF m 100 #[.val (.ref a1), .val (.int (own_sh6 iv)), .val .null, .val (.int i), .val (.int (i <<< ((6 : Int32) &&& 31))), .val (.int (own_min (64 : Int32) ((n + 1) - (i <<< ((6 : Int32) &&& 31)))))] [(.int (own_min (64 : Int32) ((n + 1) - (i <<< ((6 : Int32) &&& 31))))), (.int (i <<< ((6 : Int32) &&& 31))), (.ref b), (.int (0 : Int32)), (.ref p)])) rfl (by rw [hml]; rfl) rfl (hb hby d40_100) (by decide) (W := 0) (by show 2 * 0 + _ ≤ _; exact Nat.le_of_eq rfl) (by decide)
      have Vn56 : Arv Z h56 b kb .int (n + 1) (lst (own_part f (i.toInt.toNat + 1)) (n + 1).toNatClampNeg) (.int (0 : Int32)) := by
        have q := part_copy (f := f) (i := i.toInt.toNat) (N := (n + 1).toNatClampNeg) hcp.2.2.1 hcp.2.2.2.1 (by rw [hcp.2.2.1]; exact hcp.2.2.2.2.1) (by rw [hcp.2.2.1]; exact hcp.2.2.2.2.2)
        rw [← q]
        exact Vb56
      have f57 := E_1.keep K56
      have f58 := F_n.keep K56 (ninS ne_a nin0)
      have f59 := F_a.keep K56 (ninS ne_a nin0)
      have f60 := F_p.keep K56 (ninS ne_a nin0)
      have f61 := V_c.keep K56 (ninS ne_c nin0)
      have P62 := PP0.keep K56 (fun i p hi e => ninS (pn_b i p hi e) nin0)
      have OLD56 := own_okp OLD0 K56 q_b
      have Z56 := Nat.le_trans Z0 K56.1
      refine ogo st56 ?_
      show OwnEnds _ _ _ _ _ _ _ (T56.setTop (mkF m 103 #[.val (.ref a1), .val (.int (own_sh6 iv)), .val .null, .val (.int i), .val (.int (i <<< ((6 : Int32) &&& 31))), .val (.int (own_min (64 : Int32) ((n + 1) - (i <<< ((6 : Int32) &&& 31)))))] []))
      refine ogo (fun t k => XS.iinc X56.here hx rfl (hb hby d40_103) rfl (l' := #[.val (.ref a1), .val (.int (own_sh6 iv)), .val .null, .val (.int (i + (1 : Int32))), .val (.int (i <<< ((6 : Int32) &&& 31))), .val (.int (own_min (64 : Int32) ((n + 1) - (i <<< ((6 : Int32) &&& 31)))))]) rfl k) ?_
      show OwnEnds _ _ _ _ _ _ _ (T56.setTop (mkF m 106 #[.val (.ref a1), .val (.int (own_sh6 iv)), .val .null, .val (.int (i + (1 : Int32))), .val (.int (i <<< ((6 : Int32) &&& 31))), .val (.int (own_min (64 : Int32) ((n + 1) - (i <<< ((6 : Int32) &&& 31)))))] []))
      refine ogo (fun t k => XS.goto X56.here hx rfl (pc0 := 106) (pc' := 46) rfl (hb hby d40_106) (by decide) (by decide) k) ?_
      exact ih T56 h56 _ (i + 1) (.val (.int (i <<< ((6 : Int32) &&& 31)))) (.val (.int (own_min (64 : Int32) ((n + 1) - (i <<< ((6 : Int32) &&& 31)))))) (Or.inr ⟨_, rfl⟩) (Or.inr ⟨_, rfl⟩) (by rw [hi1]; omega) (by rw [hi1]; omega) X56 e56 N56 OLD56 Z56 f57 f58 f59 f60 f61 (by rw [hi1, show (i.toInt + 1).toNat = i.toInt.toNat + 1 by omega]; exact Vn56) P62
set_option maxRecDepth 65536 in
set_option maxHeartbeats 40000000 in
theorem rm40 (l : Launch) (Z : State) (a0 : Array Value) (hw : ∀ d ∈ tables_1, d.before a0 Z = true) (ws : List Jvm.Cond) (a1 : Addr) (iv n : Int32) (f : Nat → Int32) (pf : Nat → Value) (cT : Addr) (mu : Int32) (kT : ClassId) (h0 : Heap) (n0 : Nat) (Z0 : n0 ≤ h0.size) (OLD : Old Z n0 h0) (g1 : n0 ≤ a1) (E_1 : Exa Z h0 a1 "com/example/dispatchwave/dispatchwave/model/VertexLabels") (F_n : Fld Z h0 a1 "com/example/dispatchwave/dispatchwave/model/VertexLabels" "vertexCount" "I" (.int n)) (F_a : Fld Z h0 a1 "com/example/dispatchwave/dispatchwave/model/VertexLabels" "array" "[I" .null) (gc : n0 ≤ cT) (F_p : Fld Z h0 a1 "com/example/dispatchwave/dispatchwave/model/VertexLabels" "pages" "[[I" (.ref cT)) (F_m : Fld Z h0 a1 "com/example/dispatchwave/dispatchwave/model/VertexLabels" "made" "I" (.int mu)) (hmu : 0 ≤ mu.toInt ∧ mu.toInt ≤ 0) (V_c : Arv Z h0 cT kT (.array .int) (own_L n) (lstV pf (own_L n).toNatClampNeg) .null) (O_c : OvrA Z kT .int "[I") (PPh : PP Z h0 n0 pf (own_L n).toNatClampNeg f) (PIh : PI pf (own_L n).toNatClampNeg) (hn : OkN n) (hp : InN n iv) :
    MetFree l (⟨"com/example/dispatchwave/dispatchwave/model/VertexLabels", "page", "(I)[I"⟩ : MethodName) (head1 (Jvm.Cond.code (⟨"com/example/dispatchwave/dispatchwave/model/VertexLabels", "page", "(I)[I"⟩ : MethodName) prog_32_method_4_code 6 (some (.array .int)) :: ws) ({ frames := 1, cells := 1, slots := 192, locals := 40 } : Room)) (fun a U => a = #[(.ref a1), (.int (own_sh6 iv))] ∧ Z.Warmed39 U.vm ∧ U.heap = h0) (fun _ _ _ _ _ => True) (fun _ U o U' => ∃ v L, o = .returned v ∧ Q40 Z a1 iv n f pf cT mu kT h0 n0 v U'.heap L ∧ FrameEnd U o U' L ({ frames := 1, cells := 1, slots := 192, locals := 40 } : Room).cells ({ frames := 1, cells := 1, slots := 192, locals := 40 } : Room).slots) := by
  refine MetFree.of_bodySF (plainFor_of_name pn_VertexLabels) hisR ?_
  intro p e s m args below meth c s₁ Bd hml0 hP hK
  obtain ⟨rfl, hZ, hh⟩ := hP
  have hx := Bd.exec
  have hby := Bd.bytes
  have hml : c.maxLocals = 6 := hml0
  have hown : s.vm.findClass "com/example/dispatchwave/dispatchwave/model/VertexLabels" = some m.cls := findClass_of_methodNamed Bd.named
  have hnm := (name_of_methodNamed Bd.named Bd.method).1
  have hlk : meth.locks = false := BodyLoose.notSynchronized Bd
  have hret := Bd.returns
  have X0 : Stand p l e ({ frames := 1, cells := 1, slots := 192, locals := 40 } : Room) s m #[(.ref a1), (.int (own_sh6 iv))] below meth c s₁ [] 0 0 := Stand.of_body Bd
  have e0 : s₁.heap = h0 := by rw [← hh, Bd.state]; rfl
  have N0 := Fr.nil n0
  refine ogo (U' := s₁.setTop (mkF m 0 #[.val (.ref a1), .val (.int (own_sh6 iv)), .unset, .unset, .unset, .unset] [])) (Q := Q40 Z a1 iv n f pf cT mu kT h0 n0) (K := ({ frames := 1, cells := 1, slots := 192, locals := 40 } : Room).cells) (N := ({ frames := 1, cells := 1, slots := 192, locals := 40 } : Room).slots) (fun t k => castTop (ef_40 m a1 (own_sh6 iv)) k) ?_
  show OwnEnds _ _ _ _ _ _ _ (s₁.setTop (mkF m 0 #[.val (.ref a1), .val (.int (own_sh6 iv)), .unset, .unset, .unset, .unset] []))
  refine ogo (fun t k => XS.aloadN X0.here hx rfl (hb hby d40_0) rfl rfl k) ?_
  show OwnEnds _ _ _ _ _ _ _ (s₁.setTop (mkF m 1 #[.val (.ref a1), .val (.int (own_sh6 iv)), .unset, .unset, .unset, .unset] [(.ref a1)]))
  obtain ⟨T1, X1, e1, st1⟩ := getF X0 hx hZ hown (host := "") (Or.inl (hw _ (List.mem_of_getElem? (i := 18) rfl))) Via.refl e0 F_p (g := (mkF m 1 #[.val (.ref a1), .val (.int (own_sh6 iv)), .unset, .unset, .unset, .unset] [(.ref a1)])) rfl rfl (hb hby d40_1)
  refine ogo st1 ?_
  show OwnEnds _ _ _ _ _ _ _ (T1.setTop (mkF m 4 #[.val (.ref a1), .val (.int (own_sh6 iv)), .unset, .unset, .unset, .unset] [(.ref cT)]))
  refine ogo (fun t k => XS.iloadN X1.here hx rfl (hb hby d40_4) rfl k) ?_
  show OwnEnds _ _ _ _ _ _ _ (T1.setTop (mkF m 5 #[.val (.ref a1), .val (.int (own_sh6 iv)), .unset, .unset, .unset, .unset] [(.int (own_sh6 iv)), (.ref cT)]))
  obtain ⟨cl2, Ar2, Aq2, As2, An2, Ah2, Ag2⟩ := id V_c
  rcases PPh _ (own_pi hn hp).2.2 with ⟨e0t, z0t⟩ | ⟨p, e0t, g0t, V0t⟩
  · refine ogo (fun t k => X1.aaload hx (j := (own_sh6 iv)) (v := .null) (by rw [e1]; exact Ar2.1) (State.isArrayOf_alike hZ.alike Ar2.2.1) rfl Ar2.2.2 (inb_of As2 (own_pi hn hp).1) (Ah2.at (inb_of As2 (own_pi hn hp).1) ((congrArg (fun t => (lstV pf (own_L n).toNatClampNeg).getD t .null) (own_pi hn hp).2.1).trans ((lstV_at (own_pi hn hp).2.2).trans e0t))) (g := (mkF m 5 #[.val (.ref a1), .val (.int (own_sh6 iv)), .unset, .unset, .unset, .unset] [(.int (own_sh6 iv)), (.ref cT)])) rfl rfl (hb hby d40_5) t k) ?_
    show OwnEnds _ _ _ _ _ _ _ (T1.setTop (mkF m 6 #[.val (.ref a1), .val (.int (own_sh6 iv)), .unset, .unset, .unset, .unset] [.null]))
    refine ogo (fun t k => XS.astoreN X1.here hx rfl (hb hby d40_6) rfl rfl (l' := #[.val (.ref a1), .val (.int (own_sh6 iv)), .val .null, .unset, .unset, .unset]) rfl k) ?_
    show OwnEnds _ _ _ _ _ _ _ (T1.setTop (mkF m 7 #[.val (.ref a1), .val (.int (own_sh6 iv)), .val .null, .unset, .unset, .unset] []))
    refine ogo (fun t k => XS.aloadN X1.here hx rfl (hb hby d40_7) rfl rfl k) ?_
    show OwnEnds _ _ _ _ _ _ _ (T1.setTop (mkF m 8 #[.val (.ref a1), .val (.int (own_sh6 iv)), .val .null, .unset, .unset, .unset] [.null]))
    refine ogo (fun t k => XS.ifnonnullNo X1.here hx rfl (hb hby d40_8) rfl k) ?_
    show OwnEnds _ _ _ _ _ _ _ (T1.setTop (mkF m 11 #[.val (.ref a1), .val (.int (own_sh6 iv)), .val .null, .unset, .unset, .unset] []))
    refine ogo (fun t k => X1.ldc2Long hx hown (mvT hZ (hw _ (List.mem_of_getElem? (i := 36) rfl))) (g := (mkF m 11 #[.val (.ref a1), .val (.int (own_sh6 iv)), .val .null, .unset, .unset, .unset] [])) rfl (hb hby d40_11) t k) ?_
    show OwnEnds _ _ _ _ _ _ _ (T1.setTop (mkF m 14 #[.val (.ref a1), .val (.int (own_sh6 iv)), .val .null, .unset, .unset, .unset] [(.long (4 : Int64))]))
    refine ogo (fun t k => XS.aloadN X1.here hx rfl (hb hby d40_14) rfl rfl k) ?_
    show OwnEnds _ _ _ _ _ _ _ (T1.setTop (mkF m 15 #[.val (.ref a1), .val (.int (own_sh6 iv)), .val .null, .unset, .unset, .unset] [(.ref a1), (.long (4 : Int64))]))
    obtain ⟨T4, X4, e4, st4⟩ := getF X1 hx hZ hown (host := "") (Or.inl (hw _ (List.mem_of_getElem? (i := 37) rfl))) Via.refl e1 F_m (g := (mkF m 15 #[.val (.ref a1), .val (.int (own_sh6 iv)), .val .null, .unset, .unset, .unset] [(.ref a1), (.long (4 : Int64))])) rfl rfl (hb hby d40_15)
    refine ogo st4 ?_
    show OwnEnds _ _ _ _ _ _ _ (T4.setTop (mkF m 18 #[.val (.ref a1), .val (.int (own_sh6 iv)), .val .null, .unset, .unset, .unset] [(.int mu), (.long (4 : Int64))]))
    refine ogo (fun t k => XS.iconst X4.here hx rfl (hb hby d40_18) k) ?_
    show OwnEnds _ _ _ _ _ _ _ (T4.setTop (mkF m 19 #[.val (.ref a1), .val (.int (own_sh6 iv)), .val .null, .unset, .unset, .unset] [(.int (1 : Int32)), (.int mu), (.long (4 : Int64))]))
    refine ogo (fun t k => XS.iadd X4.here hx rfl (hb hby d40_19) rfl k) ?_
    show OwnEnds _ _ _ _ _ _ _ (T4.setTop (mkF m 20 #[.val (.ref a1), .val (.int (own_sh6 iv)), .val .null, .unset, .unset, .unset] [(.int (mu + (1 : Int32))), (.long (4 : Int64))]))
    refine ogo (fun t k => XS.i2l X4.here hx rfl (hb hby d40_20) rfl k) ?_
    show OwnEnds _ _ _ _ _ _ _ (T4.setTop (mkF m 21 #[.val (.ref a1), .val (.int (own_sh6 iv)), .val .null, .unset, .unset, .unset] [(.long ((mu + (1 : Int32)).toInt64)), (.long (4 : Int64))]))
    refine ogo (fun t k => XS.lmul X4.here hx rfl (hb hby d40_21) rfl k) ?_
    show OwnEnds _ _ _ _ _ _ _ (T4.setTop (mkF m 22 #[.val (.ref a1), .val (.int (own_sh6 iv)), .val .null, .unset, .unset, .unset] [(.long ((4 : Int64) * ((mu + (1 : Int32)).toInt64)))]))
    refine ogo (fun t k => XS.aloadN X4.here hx rfl (hb hby d40_22) rfl rfl k) ?_
    show OwnEnds _ _ _ _ _ _ _ (T4.setTop (mkF m 23 #[.val (.ref a1), .val (.int (own_sh6 iv)), .val .null, .unset, .unset, .unset] [(.ref a1), (.long ((4 : Int64) * ((mu + (1 : Int32)).toInt64)))]))
    obtain ⟨T5, X5, e5, st5⟩ := getF X4 hx hZ hown (host := "") (Or.inl (hw _ (List.mem_of_getElem? (i := 18) rfl))) Via.refl e4 F_p (g := (mkF m 23 #[.val (.ref a1), .val (.int (own_sh6 iv)), .val .null, .unset, .unset, .unset] [(.ref a1), (.long ((4 : Int64) * ((mu + (1 : Int32)).toInt64)))])) rfl rfl (hb hby d40_23)
    refine ogo st5 ?_
    show OwnEnds _ _ _ _ _ _ _ (T5.setTop (mkF m 26 #[.val (.ref a1), .val (.int (own_sh6 iv)), .val .null, .unset, .unset, .unset] [(.ref cT), (.long ((4 : Int64) * ((mu + (1 : Int32)).toInt64)))]))
    obtain ⟨cl6, Ar6, Aq6, As6, An6, Ah6, Ag6⟩ := id V_c
    refine ogo (fun t k => X5.arraylength hx (by rw [e5]; exact Ar6.1) (State.isArrayOf_alike hZ.alike Ar6.2.1) (g := (mkF m 26 #[.val (.ref a1), .val (.int (own_sh6 iv)), .val .null, .unset, .unset, .unset] [(.ref cT), (.long ((4 : Int64) * ((mu + (1 : Int32)).toInt64)))])) rfl rfl (hb hby d40_26) t k) ?_
    rw [len_of As6 An6]
    show OwnEnds _ _ _ _ _ _ _ (T5.setTop (mkF m 27 #[.val (.ref a1), .val (.int (own_sh6 iv)), .val .null, .unset, .unset, .unset] [(.int (own_L n)), (.long ((4 : Int64) * ((mu + (1 : Int32)).toInt64)))]))
    refine ogo (fun t k => XS.i2l X5.here hx rfl (hb hby d40_27) rfl k) ?_
    show OwnEnds _ _ _ _ _ _ _ (T5.setTop (mkF m 28 #[.val (.ref a1), .val (.int (own_sh6 iv)), .val .null, .unset, .unset, .unset] [(.long ((own_L n).toInt64)), (.long ((4 : Int64) * ((mu + (1 : Int32)).toInt64)))]))
    refine ogo (fun t k => XS.lcmp X5.here hx rfl (hb hby d40_28) rfl k) ?_
    show OwnEnds _ _ _ _ _ _ _ (T5.setTop (mkF m 29 #[.val (.ref a1), .val (.int (own_sh6 iv)), .val .null, .unset, .unset, .unset] [(.int (lcmpW ((4 : Int64) * ((mu + (1 : Int32)).toInt64)) ((own_L n).toInt64)))]))
    by_cases hc7 : ((own_L n).toInt64) < ((4 : Int64) * ((mu + (1 : Int32)).toInt64))
    · refine ogo (fun t k => XS.ifNo X5.here hx rfl (hb hby d40_29) rfl ((if0 _ _).trans (tlt ((lw_gt ((4 : Int64) * ((mu + (1 : Int32)).toInt64)) ((own_L n).toInt64)).mpr hc7)).2.2.2) k) ?_
      show OwnEnds _ _ _ _ _ _ _ (T5.setTop (mkF m 32 #[.val (.ref a1), .val (.int (own_sh6 iv)), .val .null, .unset, .unset, .unset] []))
      refine ogo (fun t k => XS.aloadN X5.here hx rfl (hb hby d40_32) rfl rfl k) ?_
      show OwnEnds _ _ _ _ _ _ _ (T5.setTop (mkF m 33 #[.val (.ref a1), .val (.int (own_sh6 iv)), .val .null, .unset, .unset, .unset] [(.ref a1)]))
      refine ogo (fun t k => XS.aloadN X5.here hx rfl (hb hby d40_33) rfl rfl k) ?_
      show OwnEnds _ _ _ _ _ _ _ (T5.setTop (mkF m 34 #[.val (.ref a1), .val (.int (own_sh6 iv)), .val .null, .unset, .unset, .unset] [(.ref a1), (.ref a1)]))
      obtain ⟨T8, X8, e8, st8⟩ := getF X5 hx hZ hown (host := "") (Or.inl (hw _ (List.mem_of_getElem? (i := 14) rfl))) Via.refl e5 F_n (g := (mkF m 34 #[.val (.ref a1), .val (.int (own_sh6 iv)), .val .null, .unset, .unset, .unset] [(.ref a1), (.ref a1)])) rfl rfl (hb hby d40_34)
      refine ogo st8 ?_
      show OwnEnds _ _ _ _ _ _ _ (T8.setTop (mkF m 37 #[.val (.ref a1), .val (.int (own_sh6 iv)), .val .null, .unset, .unset, .unset] [(.int n), (.ref a1)]))
      refine ogo (fun t k => XS.iconst X8.here hx rfl (hb hby d40_37) k) ?_
      show OwnEnds _ _ _ _ _ _ _ (T8.setTop (mkF m 38 #[.val (.ref a1), .val (.int (own_sh6 iv)), .val .null, .unset, .unset, .unset] [(.int (1 : Int32)), (.int n), (.ref a1)]))
      refine ogo (fun t k => XS.iadd X8.here hx rfl (hb hby d40_38) rfl k) ?_
      show OwnEnds _ _ _ _ _ _ _ (T8.setTop (mkF m 39 #[.val (.ref a1), .val (.int (own_sh6 iv)), .val .null, .unset, .unset, .unset] [(.int (n + (1 : Int32))), (.ref a1)]))
      obtain ⟨T9, h9, k9, X9, e9, E9, A9, B9, st9⟩ := newPE X8 hx hZ (hw _ (List.mem_of_getElem? (i := 39) rfl)) e8 (g := (mkF m 39 #[.val (.ref a1), .val (.int (own_sh6 iv)), .val .null, .unset, .unset, .unset] [(.int (n + (1 : Int32))), (.ref a1)])) rfl (hb hby d40_39) (n := (n + 1)) rfl (own_n1nn hn) (cap := 192) (own_cap (M := 0) (by decide) hn hmu hc7) (by decide) (by decide) (by decide) (ad := "[I") (by decide)
      obtain ⟨b9, g9⟩ : ∃ z, z = h0.size := ⟨_, rfl⟩
      rw [← g9] at A9 B9 st9
      have ne_a1_b9 : a1 ≠ b9 := Nat.ne_of_lt (Nat.lt_of_lt_of_le (E_1).lt (Nat.le_of_eq g9.symm))
      have ne_cT_b9 : cT ≠ b9 := Nat.ne_of_lt (Nat.lt_of_lt_of_le (V_c).lt (Nat.le_of_eq g9.symm))
      have pn_b9 := PPh.ne_new g9
      have q_b9 : n0 ≤ b9 := Nat.le_trans Z0 (Nat.le_of_eq g9.symm)
      have f10 := E_1.ext E9
      have f11 := F_n.ext E9
      have f12 := F_a.ext E9
      have f13 := F_p.ext E9
      have f14 := F_m.ext E9
      have f15 := V_c.ext E9
      have P16 := PPh.ext E9
      have OLD17 := OLD.ext E9
      have Z17 := Nat.le_trans Z0 E9.1
      have V9 : Arv Z h9 b9 k9 .int (n + 1) (lst (fun _ => 0) ((n + 1)).toNatClampNeg) (.int (0 : Int32)) := by
        have q := (Arv.new A9 (own_n1nn hn)).pad (pad_rep [] (.int (0 : Int32)) ((n + 1)).toNatClampNeg)
        rw [List.nil_append, lst_rep] at q
        exact q
      refine ogo st9 ?_
      show OwnEnds _ _ _ _ _ _ _ (T9.setTop (mkF m 41 #[.val (.ref a1), .val (.int (own_sh6 iv)), .val .null, .unset, .unset, .unset] [(.ref b9), (.ref a1)]))
      obtain ⟨T18, h18, X18, e18, W18, st18⟩ := putF X9 hx hZ hown (host := "") (Or.inl (hw _ (List.mem_of_getElem? (i := 25) rfl))) Via.refl e9 f12 f10 (Or.inl (hw _ (List.mem_of_getElem? (i := 26) rfl))) (hw _ (List.mem_of_getElem? (i := 6) rfl)) (ty := (.array .int)) (by decide) rfl rfl (g := (mkF m 41 #[.val (.ref a1), .val (.int (own_sh6 iv)), .val .null, .unset, .unset, .unset] [(.ref b9), (.ref a1)])) rfl rfl (hb hby d40_41)
      have nx19 : cT ≠ a1 := (Av.neObj ⟨_, f15⟩ f10 (hw _ (List.mem_of_getElem? (i := 6) rfl)))
      have nx20 : b9 ≠ a1 := (Ne.symm ne_a1_b9)
      have f21 := f10.wr W18
      have f22 := f11.other W18 (Or.inr (slot_ne (Or.inr (hw _ (List.mem_of_getElem? (i := 15) rfl))) (Or.inl (hw _ (List.mem_of_getElem? (i := 26) rfl))) (by decide) (t := .int) (t' := (.array .int)) (by decide) (by decide)))
      have f23 := f12.same W18
      have f24 := f13.other W18 (Or.inr (slot_ne (Or.inl (hw _ (List.mem_of_getElem? (i := 19) rfl))) (Or.inl (hw _ (List.mem_of_getElem? (i := 26) rfl))) (by decide) (t := (.array (.array .int))) (t' := (.array .int)) (by decide) (by decide)))
      have f25 := f14.other W18 (Or.inr (slot_ne (Or.inl (hw _ (List.mem_of_getElem? (i := 38) rfl))) (Or.inl (hw _ (List.mem_of_getElem? (i := 26) rfl))) (by decide) (t := .int) (t' := (.array .int)) (by decide) (by decide)))
      have f26 := f15.other W18 nx19
      have f27 := V9.other W18 nx20
      have f28 := B9.wr W18
      have P29 := P16.other W18 (P16.neObj f10 (hw _ (List.mem_of_getElem? (i := 6) rfl)))
      have N30 := Fr.snoc X18 N0 g1
      have OLD30 := OLD17.wr W18 g1
      have Z30 := Nat.le_trans Z17 (Nat.le_of_eq W18.size.symm)
      refine ogo st18 ?_
      show OwnEnds _ _ _ _ _ _ _ (T18.setTop (mkF m 44 #[.val (.ref a1), .val (.int (own_sh6 iv)), .val .null, .unset, .unset, .unset] []))
      refine ogo (fun t k => XS.iconst X18.here hx rfl (hb hby d40_44) k) ?_
      show OwnEnds _ _ _ _ _ _ _ (T18.setTop (mkF m 45 #[.val (.ref a1), .val (.int (own_sh6 iv)), .val .null, .unset, .unset, .unset] [(.int (0 : Int32))]))
      refine ogo (fun t k => XS.istoreN X18.here hx rfl (hb hby d40_45) rfl (l' := #[.val (.ref a1), .val (.int (own_sh6 iv)), .val .null, .val (.int (0 : Int32)), .unset, .unset]) rfl k) ?_
      exact lp40 Z a0 hw a1 iv n f pf cT mu kT h0 n0 g1 gc hn b9 k9 q_b9 pn_b9 ne_a1_b9 ne_cT_b9 hx hZ hby hml hown hnm hlk hret (own_L n).toInt.toNat T18 h18 _ (0 : Int32) .unset .unset (Or.inl rfl) (Or.inl rfl) (by decide) (by have y := own_L_i hn; have y2 := hn.1; have y3 : (0 : Int32).toInt = 0 := rfl; omega) X18 e18 N30 OLD30 Z30 f21 f22 f23 f24 f26 (by rw [show (0 : Int32).toInt.toNat = 0 from rfl, part_zero]; exact f27) P29
    · refine ogo (fun t k => XS.ifYes X5.here hx rfl (pc0 := 29) (pc' := 117) rfl (hb hby d40_29) rfl ((if0 _ _).trans (flt (fun q => hc7 ((lw_gt ((4 : Int64) * ((mu + (1 : Int32)).toInt64)) ((own_L n).toInt64)).mp q))).2.2.2) (by decide) (by decide) k) ?_
      show OwnEnds _ _ _ _ _ _ _ (T5.setTop (mkF m 117 #[.val (.ref a1), .val (.int (own_sh6 iv)), .val .null, .unset, .unset, .unset] []))
      refine ogo (fun t k => XS.aloadN X5.here hx rfl (hb hby d40_117) rfl rfl k) ?_
      show OwnEnds _ _ _ _ _ _ _ (T5.setTop (mkF m 118 #[.val (.ref a1), .val (.int (own_sh6 iv)), .val .null, .unset, .unset, .unset] [.null]))
      refine ogo (fun t k => XS.ifnonnullNo X5.here hx rfl (hb hby d40_118) rfl k) ?_
      show OwnEnds _ _ _ _ _ _ _ (T5.setTop (mkF m 121 #[.val (.ref a1), .val (.int (own_sh6 iv)), .val .null, .unset, .unset, .unset] []))
      refine ogo (fun t k => XS.bipush X5.here hx rfl (hb hby d40_121) k) ?_
      show OwnEnds _ _ _ _ _ _ _ (T5.setTop (mkF m 123 #[.val (.ref a1), .val (.int (own_sh6 iv)), .val .null, .unset, .unset, .unset] [(.int (64 : Int32))]))
      obtain ⟨T63, h63, k63, X63, e63, E63, A63, B63, st63⟩ := newPE X5 hx hZ (hw _ (List.mem_of_getElem? (i := 39) rfl)) e5 (g := (mkF m 123 #[.val (.ref a1), .val (.int (own_sh6 iv)), .val .null, .unset, .unset, .unset] [(.int (64 : Int32))])) rfl (hb hby d40_123) (n := (64 : Int32)) rfl (by decide) (cap := 64) (by decide) (by decide) (by decide) (by decide) (ad := "[I") (by decide)
      obtain ⟨b63, g63⟩ : ∃ z, z = h0.size := ⟨_, rfl⟩
      rw [← g63] at A63 B63 st63
      have ne_a1_b63 : a1 ≠ b63 := Nat.ne_of_lt (Nat.lt_of_lt_of_le (E_1).lt (Nat.le_of_eq g63.symm))
      have ne_cT_b63 : cT ≠ b63 := Nat.ne_of_lt (Nat.lt_of_lt_of_le (V_c).lt (Nat.le_of_eq g63.symm))
      have pn_b63 := PPh.ne_new g63
      have q_b63 : n0 ≤ b63 := Nat.le_trans Z0 (Nat.le_of_eq g63.symm)
      have f64 := E_1.ext E63
      have f65 := F_n.ext E63
      have f66 := F_a.ext E63
      have f67 := F_p.ext E63
      have f68 := F_m.ext E63
      have f69 := V_c.ext E63
      have P70 := PPh.ext E63
      have OLD71 := OLD.ext E63
      have Z71 := Nat.le_trans Z0 E63.1
      have V63 : Arv Z h63 b63 k63 .int (64 : Int32) (lst (fun _ => 0) ((64 : Int32)).toNatClampNeg) (.int (0 : Int32)) := by
        have q := (Arv.new A63 (by decide)).pad (pad_rep [] (.int (0 : Int32)) ((64 : Int32)).toNatClampNeg)
        rw [List.nil_append, lst_rep] at q
        exact q
      refine ogo st63 ?_
      show OwnEnds _ _ _ _ _ _ _ (T63.setTop (mkF m 125 #[.val (.ref a1), .val (.int (own_sh6 iv)), .val .null, .unset, .unset, .unset] [(.ref b63)]))
      refine ogo (fun t k => XS.astoreN X63.here hx rfl (hb hby d40_125) rfl rfl (l' := #[.val (.ref a1), .val (.int (own_sh6 iv)), .val (.ref b63), .unset, .unset, .unset]) rfl k) ?_
      show OwnEnds _ _ _ _ _ _ _ (T63.setTop (mkF m 126 #[.val (.ref a1), .val (.int (own_sh6 iv)), .val (.ref b63), .unset, .unset, .unset] []))
      refine ogo (fun t k => XS.aloadN X63.here hx rfl (hb hby d40_126) rfl rfl k) ?_
      show OwnEnds _ _ _ _ _ _ _ (T63.setTop (mkF m 127 #[.val (.ref a1), .val (.int (own_sh6 iv)), .val (.ref b63), .unset, .unset, .unset] [(.ref a1)]))
      obtain ⟨T72, X72, e72, st72⟩ := getF X63 hx hZ hown (host := "") (Or.inl (hw _ (List.mem_of_getElem? (i := 18) rfl))) Via.refl e63 f67 (g := (mkF m 127 #[.val (.ref a1), .val (.int (own_sh6 iv)), .val (.ref b63), .unset, .unset, .unset] [(.ref a1)])) rfl rfl (hb hby d40_127)
      refine ogo st72 ?_
      show OwnEnds _ _ _ _ _ _ _ (T72.setTop (mkF m 130 #[.val (.ref a1), .val (.int (own_sh6 iv)), .val (.ref b63), .unset, .unset, .unset] [(.ref cT)]))
      refine ogo (fun t k => XS.iloadN X72.here hx rfl (hb hby d40_130) rfl k) ?_
      show OwnEnds _ _ _ _ _ _ _ (T72.setTop (mkF m 131 #[.val (.ref a1), .val (.int (own_sh6 iv)), .val (.ref b63), .unset, .unset, .unset] [(.int (own_sh6 iv)), (.ref cT)]))
      refine ogo (fun t k => XS.aloadN X72.here hx rfl (hb hby d40_131) rfl rfl k) ?_
      show OwnEnds _ _ _ _ _ _ _ (T72.setTop (mkF m 132 #[.val (.ref a1), .val (.int (own_sh6 iv)), .val (.ref b63), .unset, .unset, .unset] [(.ref b63), (.int (own_sh6 iv)), (.ref cT)]))
      obtain ⟨cl73, Ar73, Aq73, As73, An73, Ah73, Ag73⟩ := id f69
      obtain ⟨T73, h73, X73, e73, W73, st73⟩ := stR X72 hx hZ e72 Ar73 (j := own_sh6 iv) (inb_of As73 (own_pi hn hp).1) rfl (Sto.ofVA Ar73 Aq73 O_c (Ins.self B63)) (g := (mkF m 132 #[.val (.ref a1), .val (.int (own_sh6 iv)), .val (.ref b63), .unset, .unset, .unset] [(.ref b63), (.int (own_sh6 iv)), (.ref cT)])) rfl rfl (hb hby d40_132)
      have V73 : Arv Z h73 cT kT (.array .int) (own_L n) (lstV (fupdV pf (iv.toInt.toNat / 64) (.ref b63)) (own_L n).toNatClampNeg) .null := by
        have q := Arv.set Ar73 Aq73 As73 An73 Ah73 Ag73 rfl W73 (iv.toInt.toNat / 64) (own_pi hn hp).2.1 (by rw [lstV_len]; exact (own_pi hn hp).2.2)
        rw [lstV_set] at q
        exact q
      have P74 := P70.make (own_pi hn hp).2.2 e0t q_b63 ⟨_, V63⟩
      have PIn := PIh.make (i := (iv.toInt.toNat / 64)) pn_b63
      have nx75 : a1 ≠ cT := (Ne.symm (Av.neObj ⟨_, f69⟩ f64 (hw _ (List.mem_of_getElem? (i := 6) rfl))))
      have nx76 : b63 ≠ cT := (Ne.symm ne_cT_b63)
      have f77 := f64.wr W73
      have f78 := f65.other W73 (Or.inl nx75)
      have f79 := f66.other W73 (Or.inl nx75)
      have f80 := f67.other W73 (Or.inl nx75)
      have f81 := f68.other W73 (Or.inl nx75)
      have f82 := V63.other W73 nx76
      have f83 := B63.wr W73
      have P84 := P74.other W73 (P74.neTab f69)
      have N85 := Fr.snoc X73 N0 gc
      have OLD85 := OLD71.wr W73 gc
      have Z85 := Nat.le_trans Z71 (Nat.le_of_eq W73.size.symm)
      refine ogo st73 ?_
      show OwnEnds _ _ _ _ _ _ _ (T73.setTop (mkF m 133 #[.val (.ref a1), .val (.int (own_sh6 iv)), .val (.ref b63), .unset, .unset, .unset] []))
      refine ogo (fun t k => XS.aloadN X73.here hx rfl (hb hby d40_133) rfl rfl k) ?_
      show OwnEnds _ _ _ _ _ _ _ (T73.setTop (mkF m 134 #[.val (.ref a1), .val (.int (own_sh6 iv)), .val (.ref b63), .unset, .unset, .unset] [(.ref a1)]))
      refine ogo (fun t k => XS.dup X73.here hx rfl (hb hby d40_134) rfl rfl k) ?_
      show OwnEnds _ _ _ _ _ _ _ (T73.setTop (mkF m 135 #[.val (.ref a1), .val (.int (own_sh6 iv)), .val (.ref b63), .unset, .unset, .unset] [(.ref a1), (.ref a1)]))
      obtain ⟨T86, X86, e86, st86⟩ := getF X73 hx hZ hown (host := "") (Or.inl (hw _ (List.mem_of_getElem? (i := 37) rfl))) Via.refl e73 f81 (g := (mkF m 135 #[.val (.ref a1), .val (.int (own_sh6 iv)), .val (.ref b63), .unset, .unset, .unset] [(.ref a1), (.ref a1)])) rfl rfl (hb hby d40_135)
      refine ogo st86 ?_
      show OwnEnds _ _ _ _ _ _ _ (T86.setTop (mkF m 138 #[.val (.ref a1), .val (.int (own_sh6 iv)), .val (.ref b63), .unset, .unset, .unset] [(.int mu), (.ref a1)]))
      refine ogo (fun t k => XS.iconst X86.here hx rfl (hb hby d40_138) k) ?_
      show OwnEnds _ _ _ _ _ _ _ (T86.setTop (mkF m 139 #[.val (.ref a1), .val (.int (own_sh6 iv)), .val (.ref b63), .unset, .unset, .unset] [(.int (1 : Int32)), (.int mu), (.ref a1)]))
      refine ogo (fun t k => XS.iadd X86.here hx rfl (hb hby d40_139) rfl k) ?_
      show OwnEnds _ _ _ _ _ _ _ (T86.setTop (mkF m 140 #[.val (.ref a1), .val (.int (own_sh6 iv)), .val (.ref b63), .unset, .unset, .unset] [(.int (mu + (1 : Int32))), (.ref a1)]))
      obtain ⟨T87, h87, X87, e87, W87, st87⟩ := putF X86 hx hZ hown (host := "") (Or.inl (hw _ (List.mem_of_getElem? (i := 37) rfl))) Via.refl e86 f81 f77 (Or.inl (hw _ (List.mem_of_getElem? (i := 38) rfl))) (hw _ (List.mem_of_getElem? (i := 6) rfl)) (ty := .int) (by decide) rfl rfl (g := (mkF m 140 #[.val (.ref a1), .val (.int (own_sh6 iv)), .val (.ref b63), .unset, .unset, .unset] [(.int (mu + (1 : Int32))), (.ref a1)])) rfl rfl (hb hby d40_140)
      have nx88 : cT ≠ a1 := (Ne.symm nx75)
      have nx89 : b63 ≠ a1 := (Ne.symm ne_a1_b63)
      have f90 := f77.wr W87
      have f91 := f78.other W87 (Or.inr (slot_ne (Or.inr (hw _ (List.mem_of_getElem? (i := 15) rfl))) (Or.inl (hw _ (List.mem_of_getElem? (i := 38) rfl))) (by decide) (t := .int) (t' := .int) (by decide) (by decide)))
      have f92 := f79.other W87 (Or.inr (slot_ne (Or.inl (hw _ (List.mem_of_getElem? (i := 26) rfl))) (Or.inl (hw _ (List.mem_of_getElem? (i := 38) rfl))) (by decide) (t := (.array .int)) (t' := .int) (by decide) (by decide)))
      have f93 := f80.other W87 (Or.inr (slot_ne (Or.inl (hw _ (List.mem_of_getElem? (i := 19) rfl))) (Or.inl (hw _ (List.mem_of_getElem? (i := 38) rfl))) (by decide) (t := (.array (.array .int))) (t' := .int) (by decide) (by decide)))
      have f94 := f81.same W87
      have f95 := V73.other W87 nx88
      have f96 := f82.other W87 nx89
      have f97 := f83.wr W87
      have P98 := P84.other W87 (P84.neObj f77 (hw _ (List.mem_of_getElem? (i := 6) rfl)))
      have N99 := Fr.snoc X87 N85 g1
      have OLD99 := OLD85.wr W87 g1
      have Z99 := Nat.le_trans Z85 (Nat.le_of_eq W87.size.symm)
      refine ogo st87 ?_
      show OwnEnds _ _ _ _ _ _ _ (T87.setTop (mkF m 143 #[.val (.ref a1), .val (.int (own_sh6 iv)), .val (.ref b63), .unset, .unset, .unset] []))
      refine ogo (fun t k => XS.aloadN X87.here hx rfl (hb hby d40_143) rfl rfl k) ?_
      show OwnEnds _ _ _ _ _ _ _ (T87.setTop (mkF m 144 #[.val (.ref a1), .val (.int (own_sh6 iv)), .val (.ref b63), .unset, .unset, .unset] [(.ref b63)]))
      refine endA X87 hx hlk hret rfl rfl (hb hby d40_144) (by decide) (by decide) ?_
      show Q40 Z a1 iv n f pf cT mu kT h0 n0 _ T87.heap _
      rw [e87]
      exact ⟨N99, OLD99, Z99, Or.inl ⟨b63, (fupdV pf (iv.toInt.toNat / 64) (.ref b63)), mu + 1, rfl, by simp [fupdV], ⟨g1, f90, f91⟩, f92, gc, f93, f94, own_mu1 (by decide) hmu, f95, O_c, P98, PIn⟩⟩
  · refine ogo (fun t k => X1.aaload hx (j := (own_sh6 iv)) (v := (.ref p)) (by rw [e1]; exact Ar2.1) (State.isArrayOf_alike hZ.alike Ar2.2.1) rfl Ar2.2.2 (inb_of As2 (own_pi hn hp).1) (Ah2.at (inb_of As2 (own_pi hn hp).1) ((congrArg (fun t => (lstV pf (own_L n).toNatClampNeg).getD t .null) (own_pi hn hp).2.1).trans ((lstV_at (own_pi hn hp).2.2).trans e0t))) (g := (mkF m 5 #[.val (.ref a1), .val (.int (own_sh6 iv)), .unset, .unset, .unset, .unset] [(.int (own_sh6 iv)), (.ref cT)])) rfl rfl (hb hby d40_5) t k) ?_
    show OwnEnds _ _ _ _ _ _ _ (T1.setTop (mkF m 6 #[.val (.ref a1), .val (.int (own_sh6 iv)), .unset, .unset, .unset, .unset] [(.ref p)]))
    refine ogo (fun t k => XS.astoreN X1.here hx rfl (hb hby d40_6) rfl rfl (l' := #[.val (.ref a1), .val (.int (own_sh6 iv)), .val (.ref p), .unset, .unset, .unset]) rfl k) ?_
    show OwnEnds _ _ _ _ _ _ _ (T1.setTop (mkF m 7 #[.val (.ref a1), .val (.int (own_sh6 iv)), .val (.ref p), .unset, .unset, .unset] []))
    refine ogo (fun t k => XS.aloadN X1.here hx rfl (hb hby d40_7) rfl rfl k) ?_
    show OwnEnds _ _ _ _ _ _ _ (T1.setTop (mkF m 8 #[.val (.ref a1), .val (.int (own_sh6 iv)), .val (.ref p), .unset, .unset, .unset] [(.ref p)]))
    refine ogo (fun t k => XS.ifnonnullYes X1.here hx rfl (pc0 := 8) (pc' := 117) rfl (hb hby d40_8) rfl (by decide) (by decide) k) ?_
    show OwnEnds _ _ _ _ _ _ _ (T1.setTop (mkF m 117 #[.val (.ref a1), .val (.int (own_sh6 iv)), .val (.ref p), .unset, .unset, .unset] []))
    refine ogo (fun t k => XS.aloadN X1.here hx rfl (hb hby d40_117) rfl rfl k) ?_
    show OwnEnds _ _ _ _ _ _ _ (T1.setTop (mkF m 118 #[.val (.ref a1), .val (.int (own_sh6 iv)), .val (.ref p), .unset, .unset, .unset] [(.ref p)]))
    refine ogo (fun t k => XS.ifnonnullYes X1.here hx rfl (pc0 := 118) (pc' := 143) rfl (hb hby d40_118) rfl (by decide) (by decide) k) ?_
    show OwnEnds _ _ _ _ _ _ _ (T1.setTop (mkF m 143 #[.val (.ref a1), .val (.int (own_sh6 iv)), .val (.ref p), .unset, .unset, .unset] []))
    refine ogo (fun t k => XS.aloadN X1.here hx rfl (hb hby d40_143) rfl rfl k) ?_
    show OwnEnds _ _ _ _ _ _ _ (T1.setTop (mkF m 144 #[.val (.ref a1), .val (.int (own_sh6 iv)), .val (.ref p), .unset, .unset, .unset] [(.ref p)]))
    refine endA X1 hx hlk hret rfl rfl (hb hby d40_144) (by decide) (by decide) ?_
    show Q40 Z a1 iv n f pf cT mu kT h0 n0 _ T1.heap _
    rw [e1]
    exact ⟨N0, OLD, Z0, Or.inl ⟨p, pf, mu, rfl, e0t, ⟨g1, E_1, F_n⟩, F_a, gc, F_p, F_m, ⟨hmu.1, by have := hmu.2; omega⟩, V_c, O_c, PPh, PIh⟩⟩
theorem d50_0 : decode prog_32_method_3_code 0 = .ok (.aload_n 0, 1) := by decide +kernel
theorem d50_1 : decode prog_32_method_3_code 1 = .ok (.getfield 19, 3) := by decide +kernel
theorem d50_4 : decode prog_32_method_3_code 4 = .ok (.ifnonnull 14, 3) := by decide +kernel
theorem d50_7 : decode prog_32_method_3_code 7 = .ok (.aload_n 0, 1) := by decide +kernel
theorem d50_8 : decode prog_32_method_3_code 8 = .ok (.iload_n 1, 1) := by decide +kernel
theorem d50_9 : decode prog_32_method_3_code 9 = .ok (.bipush 6, 2) := by decide +kernel
theorem d50_11 : decode prog_32_method_3_code 11 = .ok (.iushr, 1) := by decide +kernel
theorem d50_12 : decode prog_32_method_3_code 12 = .ok (.invokevirtual 22, 3) := by decide +kernel
theorem d50_15 : decode prog_32_method_3_code 15 = .ok (.goto 4, 3) := by decide +kernel
theorem d50_18 : decode prog_32_method_3_code 18 = .ok (.aconst_null, 1) := by decide +kernel
theorem d50_19 : decode prog_32_method_3_code 19 = .ok (.astore_n 3, 1) := by decide +kernel
theorem d50_20 : decode prog_32_method_3_code 20 = .ok (.aload_n 3, 1) := by decide +kernel
theorem d50_21 : decode prog_32_method_3_code 21 = .ok (.ifnull 13, 3) := by decide +kernel
theorem d50_24 : decode prog_32_method_3_code 24 = .ok (.aload_n 3, 1) := by decide +kernel
theorem d50_25 : decode prog_32_method_3_code 25 = .ok (.iload_n 1, 1) := by decide +kernel
theorem d50_26 : decode prog_32_method_3_code 26 = .ok (.bipush 63, 2) := by decide +kernel
theorem d50_28 : decode prog_32_method_3_code 28 = .ok (.iand, 1) := by decide +kernel
theorem d50_29 : decode prog_32_method_3_code 29 = .ok (.iload_n 2, 1) := by decide +kernel
theorem d50_30 : decode prog_32_method_3_code 30 = .ok (.iastore, 1) := by decide +kernel
theorem d50_31 : decode prog_32_method_3_code 31 = .ok (.goto 10, 3) := by decide +kernel
theorem d50_34 : decode prog_32_method_3_code 34 = .ok (.aload_n 0, 1) := by decide +kernel
theorem d50_35 : decode prog_32_method_3_code 35 = .ok (.getfield 19, 3) := by decide +kernel
theorem d50_38 : decode prog_32_method_3_code 38 = .ok (.iload_n 1, 1) := by decide +kernel
theorem d50_39 : decode prog_32_method_3_code 39 = .ok (.iload_n 2, 1) := by decide +kernel
theorem d50_40 : decode prog_32_method_3_code 40 = .ok (.iastore, 1) := by decide +kernel
theorem d50_41 : decode prog_32_method_3_code 41 = .ok (.return_, 1) := by decide +kernel
theorem pd__I__I : parseMethodDescriptor "(I)[I" = some ⟨[.int], some (.array .int)⟩ := by decide +kernel
theorem ef_50 (m : MethodId) (x0 : Addr) (x1 : Int32) (x2 : Int32) : entryFrame m #[(.ref x0), (.int x1), (.int x2)] 4 = mkF m 0 #[.val (.ref x0), .val (.int x1), .val (.int x2), .unset] [] := by first | (simp [entryFrame, mkF, argsToLocals, Value.category]; done) | rfl
def Q50 (Z : State) (a1 : Addr) (iv lv n : Int32) (f : Nat → Int32) (h0 : Heap) (n0 : Nat) (v : Option Value) (h : Heap) (L : List Loc) : Prop := v = none ∧ Fr n0 L ∧ Old Z n0 h ∧ n0 ≤ h.size ∧ Lab Z h n0 a1 n (fupd f iv.toInt.toNat lv) (0 + 1)
set_option maxRecDepth 65536 in
set_option maxHeartbeats 40000000 in
theorem rm50 (l : Launch) (Z : State) (a0 : Array Value) (hw : ∀ d ∈ tables_1, d.before a0 Z = true) (ws : List Jvm.Cond) (a1 : Addr) (iv lv n : Int32) (f : Nat → Int32) (h0 : Heap) (n0 : Nat) (Z0 : n0 ≤ h0.size) (OLD : Old Z n0 h0) (hL : Lab Z h0 n0 a1 n f 0) (hn : OkN n) (hp : InN n iv) :
    MetFree l (⟨"com/example/dispatchwave/dispatchwave/model/VertexLabels", "put", "(II)V"⟩ : MethodName) (head1 (Jvm.Cond.code (⟨"com/example/dispatchwave/dispatchwave/model/VertexLabels", "put", "(II)V"⟩ : MethodName) prog_32_method_3_code 4 none :: ws) ({ frames := 2, cells := 1, slots := 192, locals := 57 } : Room)) (fun a U => a = #[(.ref a1), (.int iv), (.int lv)] ∧ Z.Warmed39 U.vm ∧ U.heap = h0) (fun _ _ _ _ _ => True) (fun _ U o U' => ∃ v L, o = .returned v ∧ Q50 Z a1 iv lv n f h0 n0 v U'.heap L ∧ FrameEnd U o U' L ({ frames := 2, cells := 1, slots := 192, locals := 57 } : Room).cells ({ frames := 2, cells := 1, slots := 192, locals := 57 } : Room).slots) := by
  refine MetFree.of_bodySF (plainFor_of_name pn_VertexLabels) hisR ?_
  intro p e s m args below meth c s₁ Bd hml0 hP hK
  obtain ⟨rfl, hZ, hh⟩ := hP
  have hx := Bd.exec
  have hby := Bd.bytes
  have hml : c.maxLocals = 4 := hml0
  have hown : s.vm.findClass "com/example/dispatchwave/dispatchwave/model/VertexLabels" = some m.cls := findClass_of_methodNamed Bd.named
  have hnm := (name_of_methodNamed Bd.named Bd.method).1
  have hlk : meth.locks = false := BodyLoose.notSynchronized Bd
  have hret := Bd.returns
  have X0 : Stand p l e ({ frames := 2, cells := 1, slots := 192, locals := 57 } : Room) s m #[(.ref a1), (.int iv), (.int lv)] below meth c s₁ [] 0 0 := Stand.of_body Bd
  have e0 : s₁.heap = h0 := by rw [← hh, Bd.state]; rfl
  have N0 := Fr.nil n0
  refine ogo (U' := s₁.setTop (mkF m 0 #[.val (.ref a1), .val (.int iv), .val (.int lv), .unset] [])) (Q := Q50 Z a1 iv lv n f h0 n0) (K := ({ frames := 2, cells := 1, slots := 192, locals := 57 } : Room).cells) (N := ({ frames := 2, cells := 1, slots := 192, locals := 57 } : Room).slots) (fun t k => castTop (ef_50 m a1 iv lv) k) ?_
  obtain ⟨⟨g1, E_1, F_n⟩, hm⟩ := hL
  rcases hm with ⟨b, gb, F_a, V_b⟩ | ⟨pf, cT, mu, kT, F_a, gc, F_p, F_m, hmu, V_c, O_c, PPh, PIh⟩
  · show OwnEnds _ _ _ _ _ _ _ (s₁.setTop (mkF m 0 #[.val (.ref a1), .val (.int iv), .val (.int lv), .unset] []))
    refine ogo (fun t k => XS.aloadN X0.here hx rfl (hb hby d50_0) rfl rfl k) ?_
    show OwnEnds _ _ _ _ _ _ _ (s₁.setTop (mkF m 1 #[.val (.ref a1), .val (.int iv), .val (.int lv), .unset] [(.ref a1)]))
    obtain ⟨T1, X1, e1, st1⟩ := getF X0 hx hZ hown (host := "") (Or.inl (hw _ (List.mem_of_getElem? (i := 25) rfl))) Via.refl e0 F_a (g := (mkF m 1 #[.val (.ref a1), .val (.int iv), .val (.int lv), .unset] [(.ref a1)])) rfl rfl (hb hby d50_1)
    refine ogo st1 ?_
    show OwnEnds _ _ _ _ _ _ _ (T1.setTop (mkF m 4 #[.val (.ref a1), .val (.int iv), .val (.int lv), .unset] [(.ref b)]))
    refine ogo (fun t k => XS.ifnonnullYes X1.here hx rfl (pc0 := 4) (pc' := 18) rfl (hb hby d50_4) rfl (by decide) (by decide) k) ?_
    show OwnEnds _ _ _ _ _ _ _ (T1.setTop (mkF m 18 #[.val (.ref a1), .val (.int iv), .val (.int lv), .unset] []))
    refine ogo (fun t k => XS.aconstNull X1.here hx rfl (hb hby d50_18) k) ?_
    show OwnEnds _ _ _ _ _ _ _ (T1.setTop (mkF m 19 #[.val (.ref a1), .val (.int iv), .val (.int lv), .unset] [.null]))
    refine ogo (fun t k => XS.astoreN X1.here hx rfl (hb hby d50_19) rfl rfl (l' := #[.val (.ref a1), .val (.int iv), .val (.int lv), .val .null]) rfl k) ?_
    show OwnEnds _ _ _ _ _ _ _ (T1.setTop (mkF m 20 #[.val (.ref a1), .val (.int iv), .val (.int lv), .val .null] []))
    refine ogo (fun t k => XS.aloadN X1.here hx rfl (hb hby d50_20) rfl rfl k) ?_
    show OwnEnds _ _ _ _ _ _ _ (T1.setTop (mkF m 21 #[.val (.ref a1), .val (.int iv), .val (.int lv), .val .null] [.null]))
    refine ogo (fun t k => XS.ifnullYes X1.here hx rfl (pc0 := 21) (pc' := 34) rfl (hb hby d50_21) rfl (by decide) (by decide) k) ?_
    show OwnEnds _ _ _ _ _ _ _ (T1.setTop (mkF m 34 #[.val (.ref a1), .val (.int iv), .val (.int lv), .val .null] []))
    refine ogo (fun t k => XS.aloadN X1.here hx rfl (hb hby d50_34) rfl rfl k) ?_
    show OwnEnds _ _ _ _ _ _ _ (T1.setTop (mkF m 35 #[.val (.ref a1), .val (.int iv), .val (.int lv), .val .null] [(.ref a1)]))
    obtain ⟨T2, X2, e2, st2⟩ := getF X1 hx hZ hown (host := "") (Or.inl (hw _ (List.mem_of_getElem? (i := 25) rfl))) Via.refl e1 F_a (g := (mkF m 35 #[.val (.ref a1), .val (.int iv), .val (.int lv), .val .null] [(.ref a1)])) rfl rfl (hb hby d50_35)
    refine ogo st2 ?_
    show OwnEnds _ _ _ _ _ _ _ (T2.setTop (mkF m 38 #[.val (.ref a1), .val (.int iv), .val (.int lv), .val .null] [(.ref b)]))
    refine ogo (fun t k => XS.iloadN X2.here hx rfl (hb hby d50_38) rfl k) ?_
    show OwnEnds _ _ _ _ _ _ _ (T2.setTop (mkF m 39 #[.val (.ref a1), .val (.int iv), .val (.int lv), .val .null] [(.int iv), (.ref b)]))
    refine ogo (fun t k => XS.iloadN X2.here hx rfl (hb hby d50_39) rfl k) ?_
    show OwnEnds _ _ _ _ _ _ _ (T2.setTop (mkF m 40 #[.val (.ref a1), .val (.int iv), .val (.int lv), .val .null] [(.int lv), (.int iv), (.ref b)]))
    obtain ⟨ak3, cl3, Ar3, Aq3, As3, An3, Ah3, Ag3⟩ := id V_b
    obtain ⟨T3, h3, X3, e3, W3, st3⟩ := stI X2 hx hZ e2 Ar3 (j := iv) (inb_of As3 (own_pv hn hp).1) (g := (mkF m 40 #[.val (.ref a1), .val (.int iv), .val (.int lv), .val .null] [(.int lv), (.int iv), (.ref b)])) rfl rfl (hb hby d50_40)
    have V3 : Arv Z h3 b ak3 .int (n + 1) (lst (fupd f iv.toInt.toNat lv) (n + 1).toNatClampNeg) (.int (0 : Int32)) := by
      have q := Arv.set Ar3 Aq3 As3 An3 Ah3 Ag3 rfl W3 iv.toInt.toNat rfl (by rw [lst_len]; exact (own_pv hn hp).2)
      rw [lst_set] at q
      exact q
    have nx4 : a1 ≠ b := (Ne.symm (Av.neObj V_b E_1 (hw _ (List.mem_of_getElem? (i := 6) rfl))))
    have f5 := E_1.wr W3
    have f6 := F_n.other W3 (Or.inl nx4)
    have f7 := F_a.other W3 (Or.inl nx4)
    have N8 := Fr.snoc X3 N0 gb
    have OLD8 := OLD.wr W3 gb
    have Z8 := Nat.le_trans Z0 (Nat.le_of_eq W3.size.symm)
    refine ogo st3 ?_
    show OwnEnds _ _ _ _ _ _ _ (T3.setTop (mkF m 41 #[.val (.ref a1), .val (.int iv), .val (.int lv), .val .null] []))
    refine endV X3 hx hlk hret (hb hby d50_41) (by decide) (by decide) ?_
    show Q50 Z a1 iv lv n f h0 n0 _ T3.heap _
    rw [e3]
    exact ⟨rfl, N8, OLD8, Z8, ⟨g1, f5, f6⟩, Or.inl ⟨b, gb, f7, ⟨_, V3⟩⟩⟩
  · show OwnEnds _ _ _ _ _ _ _ (s₁.setTop (mkF m 0 #[.val (.ref a1), .val (.int iv), .val (.int lv), .unset] []))
    refine ogo (fun t k => XS.aloadN X0.here hx rfl (hb hby d50_0) rfl rfl k) ?_
    show OwnEnds _ _ _ _ _ _ _ (s₁.setTop (mkF m 1 #[.val (.ref a1), .val (.int iv), .val (.int lv), .unset] [(.ref a1)]))
    obtain ⟨T9, X9, e9, st9⟩ := getF X0 hx hZ hown (host := "") (Or.inl (hw _ (List.mem_of_getElem? (i := 25) rfl))) Via.refl e0 F_a (g := (mkF m 1 #[.val (.ref a1), .val (.int iv), .val (.int lv), .unset] [(.ref a1)])) rfl rfl (hb hby d50_1)
    refine ogo st9 ?_
    show OwnEnds _ _ _ _ _ _ _ (T9.setTop (mkF m 4 #[.val (.ref a1), .val (.int iv), .val (.int lv), .unset] [.null]))
    refine ogo (fun t k => XS.ifnonnullNo X9.here hx rfl (hb hby d50_4) rfl k) ?_
    show OwnEnds _ _ _ _ _ _ _ (T9.setTop (mkF m 7 #[.val (.ref a1), .val (.int iv), .val (.int lv), .unset] []))
    refine ogo (fun t k => XS.aloadN X9.here hx rfl (hb hby d50_7) rfl rfl k) ?_
    show OwnEnds _ _ _ _ _ _ _ (T9.setTop (mkF m 8 #[.val (.ref a1), .val (.int iv), .val (.int lv), .unset] [(.ref a1)]))
    refine ogo (fun t k => XS.iloadN X9.here hx rfl (hb hby d50_8) rfl k) ?_
    show OwnEnds _ _ _ _ _ _ _ (T9.setTop (mkF m 9 #[.val (.ref a1), .val (.int iv), .val (.int lv), .unset] [(.int iv), (.ref a1)]))
    refine ogo (fun t k => XS.bipush X9.here hx rfl (hb hby d50_9) k) ?_
    show OwnEnds _ _ _ _ _ _ _ (T9.setTop (mkF m 11 #[.val (.ref a1), .val (.int iv), .val (.int lv), .unset] [(.int (6 : Int32)), (.int iv), (.ref a1)]))
    refine ogo (fun t k => XS.iushr X9.here hx rfl (hb hby d50_11) rfl k) ?_
    show OwnEnds _ _ _ _ _ _ _ (T9.setTop (mkF m 12 #[.val (.ref a1), .val (.int iv), .val (.int lv), .unset] [(.int ((iv.toUInt32 >>> ((6 : Int32) &&& 31).toUInt32).toInt32)), (.ref a1)]))
    obtain ⟨cq10, q10, q10'⟩ := E_1.cell
    obtain ⟨v10, _, ⟨T10, L10, k10, n10⟩, -, X10, ⟨Lc10, hQ10, l10, y10, z10⟩, st10⟩ := X9.privateBack hx (y := (⟨"com/example/dispatchwave/dispatchwave/model/VertexLabels", "page", "(I)[I"⟩ : MethodName)) hown (mvT hZ (hw _ (List.mem_of_getElem? (i := 32) rfl))) (mvT hZ (hw _ (List.mem_of_getElem? (i := 33) rfl))) (own_selP (z := (⟨"com/example/dispatchwave/dispatchwave/model/VertexLabels", "get", "(I)I"⟩ : MethodName)) (mvT hZ (hw _ (List.mem_of_getElem? (i := 23) rfl))) rfl (Cond.privateMethod_at (mvP hZ (hw _ (List.mem_of_getElem? (i := 34) rfl)) (args := #[]))) (mvT hZ (hw _ (List.mem_of_getElem? (i := 33) rfl))) (by decide)) (Cond.privateMethod_at (mvP hZ (hw _ (List.mem_of_getElem? (i := 34) rfl)) (args := #[]))) (mvT hZ (hw _ (List.mem_of_getElem? (i := 35) rfl))) (by decide) (backOf (W := 0) (rm40 l Z a0 hw [] a1 iv n f pf cT mu kT h0 n0 Z0 OLD g1 E_1 F_n F_a gc F_p F_m hmu V_c O_c PPh PIh hn hp) hZ (hw _ (List.mem_of_getElem? (i := 35) rfl)) (hw _ (List.mem_of_getElem? (i := 7) rfl)) (by decide) (by decide)) (g := (mkF m 12 #[.val (.ref a1), .val (.int iv), .val (.int lv), .unset] [(.int ((iv.toUInt32 >>> ((6 : Int32) &&& 31).toUInt32).toInt32)), (.ref a1)])) rfl (by rw [hml]; rfl) (Steps.refl _) (a := a1) (by rw [e9]; exact q10) q10' (argsL := [(.int ((iv.toUInt32 >>> ((6 : Int32) &&& 31).toUInt32).toInt32))]) (rest := []) (lenOf pd__I__I rfl) rfl (by show 2 * 0 + _ ≤ _; exact Nat.le_of_eq rfl) (hb hby d50_12) (fun _ _ => ⟨rfl, e9, (by decide : 0 + 1 ≤ _), (by decide : 0 + 192 ≤ _)⟩)
    dsimp only [Pt.U, Pt.locs, Pt.cells, Pt.slots] at X10 l10 y10 z10 st10 hQ10
    subst l10 y10 z10
    obtain ⟨N10q, OLDq, Zq, hcase⟩ := hQ10
    have N10 := Fr.app N0 N10q
    rcases hcase with ⟨p, pf, mu, rfl, ep, ⟨g1, E_1, F_n⟩, F_a, gc, F_p, F_m, hmu, V_c, O_c, PPq, PIq⟩ | ⟨rfl, ⟨g1, E_1, F_n⟩, b, gb, F_a, V_b⟩
    · refine ogo (fun t k => st10.trans k) ?_
      obtain ⟨gp, Vp⟩ := PPq.page (own_pi hn hp).2.2 ep
      show OwnEnds _ _ _ _ _ _ _ (T10.setTop (mkF m 15 #[.val (.ref a1), .val (.int iv), .val (.int lv), .unset] [(.ref p)]))
      refine ogo (fun t k => XS.goto X10.here hx rfl (pc0 := 15) (pc' := 19) rfl (hb hby d50_15) (by decide) (by decide) k) ?_
      show OwnEnds _ _ _ _ _ _ _ (T10.setTop (mkF m 19 #[.val (.ref a1), .val (.int iv), .val (.int lv), .unset] [(.ref p)]))
      refine ogo (fun t k => XS.astoreN X10.here hx rfl (hb hby d50_19) rfl rfl (l' := #[.val (.ref a1), .val (.int iv), .val (.int lv), .val (.ref p)]) rfl k) ?_
      show OwnEnds _ _ _ _ _ _ _ (T10.setTop (mkF m 20 #[.val (.ref a1), .val (.int iv), .val (.int lv), .val (.ref p)] []))
      refine ogo (fun t k => XS.aloadN X10.here hx rfl (hb hby d50_20) rfl rfl k) ?_
      show OwnEnds _ _ _ _ _ _ _ (T10.setTop (mkF m 21 #[.val (.ref a1), .val (.int iv), .val (.int lv), .val (.ref p)] [(.ref p)]))
      refine ogo (fun t k => XS.ifnullNo X10.here hx rfl (hb hby d50_21) rfl k) ?_
      show OwnEnds _ _ _ _ _ _ _ (T10.setTop (mkF m 24 #[.val (.ref a1), .val (.int iv), .val (.int lv), .val (.ref p)] []))
      refine ogo (fun t k => XS.aloadN X10.here hx rfl (hb hby d50_24) rfl rfl k) ?_
      show OwnEnds _ _ _ _ _ _ _ (T10.setTop (mkF m 25 #[.val (.ref a1), .val (.int iv), .val (.int lv), .val (.ref p)] [(.ref p)]))
      refine ogo (fun t k => XS.iloadN X10.here hx rfl (hb hby d50_25) rfl k) ?_
      show OwnEnds _ _ _ _ _ _ _ (T10.setTop (mkF m 26 #[.val (.ref a1), .val (.int iv), .val (.int lv), .val (.ref p)] [(.int iv), (.ref p)]))
      refine ogo (fun t k => XS.bipush X10.here hx rfl (hb hby d50_26) k) ?_
      show OwnEnds _ _ _ _ _ _ _ (T10.setTop (mkF m 28 #[.val (.ref a1), .val (.int iv), .val (.int lv), .val (.ref p)] [(.int (63 : Int32)), (.int iv), (.ref p)]))
      refine ogo (fun t k => XS.iand X10.here hx rfl (hb hby d50_28) rfl k) ?_
      show OwnEnds _ _ _ _ _ _ _ (T10.setTop (mkF m 29 #[.val (.ref a1), .val (.int iv), .val (.int lv), .val (.ref p)] [(.int (iv &&& (63 : Int32))), (.ref p)]))
      refine ogo (fun t k => XS.iloadN X10.here hx rfl (hb hby d50_29) rfl k) ?_
      show OwnEnds _ _ _ _ _ _ _ (T10.setTop (mkF m 30 #[.val (.ref a1), .val (.int iv), .val (.int lv), .val (.ref p)] [(.int lv), (.int (iv &&& (63 : Int32))), (.ref p)]))
      obtain ⟨ak11, cl11, Ar11, Aq11, As11, An11, Ah11, Ag11⟩ := id Vp
      obtain ⟨T11, h11, X11, e11, W11, st11⟩ := stI X10 hx hZ rfl Ar11 (j := iv &&& 63) (inb_of As11 (own_pj iv hp.1).1) (g := (mkF m 30 #[.val (.ref a1), .val (.int iv), .val (.int lv), .val (.ref p)] [(.int lv), (.int (iv &&& (63 : Int32))), (.ref p)])) rfl rfl (hb hby d50_30)
      have V11 : Av Z h11 p .int (64 : Int32) (lst (fupd (fun j => f (64 * (iv.toInt.toNat / 64) + j)) (iv.toInt.toNat % 64) lv) 64) (.int (0 : Int32)) := by
        have q := Arv.set Ar11 Aq11 As11 An11 Ah11 Ag11 rfl W11 (iv.toInt.toNat % 64) (own_pj iv hp.1).2 (by rw [lst_len]; exact Nat.mod_lt _ (by decide))
        rw [lst_set] at q
        exact ⟨_, q⟩
      have nxc : cT ≠ p := Ne.symm (PPq.neTab V_c _ _ (own_pi hn hp).2.2 ep)
      have Pn : PP Z h11 n0 pf (own_L n).toNatClampNeg (fupd f iv.toInt.toNat lv) := by
        have q := PPq.write PIq (own_pi hn hp).2.2 ep (Nat.mod_lt _ (by decide)) (Keep.of_wr W11) V11
        rw [own_64] at q
        exact q
      have nx12 : a1 ≠ p := (Ne.symm (Av.neObj Vp E_1 (hw _ (List.mem_of_getElem? (i := 6) rfl))))
      have f13 := E_1.wr W11
      have f14 := F_n.other W11 (Or.inl nx12)
      have f15 := F_a.other W11 (Or.inl nx12)
      have f16 := F_p.other W11 (Or.inl nx12)
      have f17 := F_m.other W11 (Or.inl nx12)
      have f18 := V_c.other W11 nxc
      have N19 := Fr.snoc X11 N10 gp
      have OLD19 := OLDq.wr W11 gp
      have Z19 := Nat.le_trans Zq (Nat.le_of_eq W11.size.symm)
      refine ogo st11 ?_
      show OwnEnds _ _ _ _ _ _ _ (T11.setTop (mkF m 31 #[.val (.ref a1), .val (.int iv), .val (.int lv), .val (.ref p)] []))
      refine ogo (fun t k => XS.goto X11.here hx rfl (pc0 := 31) (pc' := 41) rfl (hb hby d50_31) (by decide) (by decide) k) ?_
      show OwnEnds _ _ _ _ _ _ _ (T11.setTop (mkF m 41 #[.val (.ref a1), .val (.int iv), .val (.int lv), .val (.ref p)] []))
      refine endV X11 hx hlk hret (hb hby d50_41) (by decide) (by decide) ?_
      show Q50 Z a1 iv lv n f h0 n0 _ T11.heap _
      rw [e11]
      exact ⟨rfl, N19, OLD19, Z19, ⟨g1, f13, f14⟩, Or.inr ⟨pf, cT, mu, kT, f15, gc, f16, f17, hmu, f18, O_c, Pn, PIq⟩⟩
    · refine ogo (fun t k => st10.trans k) ?_
      show OwnEnds _ _ _ _ _ _ _ (T10.setTop (mkF m 15 #[.val (.ref a1), .val (.int iv), .val (.int lv), .unset] [.null]))
      refine ogo (fun t k => XS.goto X10.here hx rfl (pc0 := 15) (pc' := 19) rfl (hb hby d50_15) (by decide) (by decide) k) ?_
      show OwnEnds _ _ _ _ _ _ _ (T10.setTop (mkF m 19 #[.val (.ref a1), .val (.int iv), .val (.int lv), .unset] [.null]))
      refine ogo (fun t k => XS.astoreN X10.here hx rfl (hb hby d50_19) rfl rfl (l' := #[.val (.ref a1), .val (.int iv), .val (.int lv), .val .null]) rfl k) ?_
      show OwnEnds _ _ _ _ _ _ _ (T10.setTop (mkF m 20 #[.val (.ref a1), .val (.int iv), .val (.int lv), .val .null] []))
      refine ogo (fun t k => XS.aloadN X10.here hx rfl (hb hby d50_20) rfl rfl k) ?_
      show OwnEnds _ _ _ _ _ _ _ (T10.setTop (mkF m 21 #[.val (.ref a1), .val (.int iv), .val (.int lv), .val .null] [.null]))
      refine ogo (fun t k => XS.ifnullYes X10.here hx rfl (pc0 := 21) (pc' := 34) rfl (hb hby d50_21) rfl (by decide) (by decide) k) ?_
      show OwnEnds _ _ _ _ _ _ _ (T10.setTop (mkF m 34 #[.val (.ref a1), .val (.int iv), .val (.int lv), .val .null] []))
      refine ogo (fun t k => XS.aloadN X10.here hx rfl (hb hby d50_34) rfl rfl k) ?_
      show OwnEnds _ _ _ _ _ _ _ (T10.setTop (mkF m 35 #[.val (.ref a1), .val (.int iv), .val (.int lv), .val .null] [(.ref a1)]))
      obtain ⟨T20, X20, e20, st20⟩ := getF X10 hx hZ hown (host := "") (Or.inl (hw _ (List.mem_of_getElem? (i := 25) rfl))) Via.refl rfl F_a (g := (mkF m 35 #[.val (.ref a1), .val (.int iv), .val (.int lv), .val .null] [(.ref a1)])) rfl rfl (hb hby d50_35)
      refine ogo st20 ?_
      show OwnEnds _ _ _ _ _ _ _ (T20.setTop (mkF m 38 #[.val (.ref a1), .val (.int iv), .val (.int lv), .val .null] [(.ref b)]))
      refine ogo (fun t k => XS.iloadN X20.here hx rfl (hb hby d50_38) rfl k) ?_
      show OwnEnds _ _ _ _ _ _ _ (T20.setTop (mkF m 39 #[.val (.ref a1), .val (.int iv), .val (.int lv), .val .null] [(.int iv), (.ref b)]))
      refine ogo (fun t k => XS.iloadN X20.here hx rfl (hb hby d50_39) rfl k) ?_
      show OwnEnds _ _ _ _ _ _ _ (T20.setTop (mkF m 40 #[.val (.ref a1), .val (.int iv), .val (.int lv), .val .null] [(.int lv), (.int iv), (.ref b)]))
      obtain ⟨ak21, cl21, Ar21, Aq21, As21, An21, Ah21, Ag21⟩ := id V_b
      obtain ⟨T21, h21, X21, e21, W21, st21⟩ := stI X20 hx hZ e20 Ar21 (j := iv) (inb_of As21 (own_pv hn hp).1) (g := (mkF m 40 #[.val (.ref a1), .val (.int iv), .val (.int lv), .val .null] [(.int lv), (.int iv), (.ref b)])) rfl rfl (hb hby d50_40)
      have V21 : Arv Z h21 b ak21 .int (n + 1) (lst (fupd f iv.toInt.toNat lv) (n + 1).toNatClampNeg) (.int (0 : Int32)) := by
        have q := Arv.set Ar21 Aq21 As21 An21 Ah21 Ag21 rfl W21 iv.toInt.toNat rfl (by rw [lst_len]; exact (own_pv hn hp).2)
        rw [lst_set] at q
        exact q
      have nx22 : a1 ≠ b := (Ne.symm (Av.neObj V_b E_1 (hw _ (List.mem_of_getElem? (i := 6) rfl))))
      have f23 := E_1.wr W21
      have f24 := F_n.other W21 (Or.inl nx22)
      have f25 := F_a.other W21 (Or.inl nx22)
      have N26 := Fr.snoc X21 N10 gb
      have OLD26 := OLDq.wr W21 gb
      have Z26 := Nat.le_trans Zq (Nat.le_of_eq W21.size.symm)
      refine ogo st21 ?_
      show OwnEnds _ _ _ _ _ _ _ (T21.setTop (mkF m 41 #[.val (.ref a1), .val (.int iv), .val (.int lv), .val .null] []))
      refine endV X21 hx hlk hret (hb hby d50_41) (by decide) (by decide) ?_
      show Q50 Z a1 iv lv n f h0 n0 _ T21.heap _
      rw [e21]
      exact ⟨rfl, N26, OLD26, Z26, ⟨g1, f23, f24⟩, Or.inl ⟨b, gb, f25, ⟨_, V21⟩⟩⟩
theorem d41_0 : decode prog_32_method_4_code 0 = .ok (.aload_n 0, 1) := by decide +kernel
theorem d41_1 : decode prog_32_method_4_code 1 = .ok (.getfield 15, 3) := by decide +kernel
theorem d41_4 : decode prog_32_method_4_code 4 = .ok (.iload_n 1, 1) := by decide +kernel
theorem d41_5 : decode prog_32_method_4_code 5 = .ok (.aaload, 1) := by decide +kernel
theorem d41_6 : decode prog_32_method_4_code 6 = .ok (.astore_n 2, 1) := by decide +kernel
theorem d41_7 : decode prog_32_method_4_code 7 = .ok (.aload_n 2, 1) := by decide +kernel
theorem d41_8 : decode prog_32_method_4_code 8 = .ok (.ifnonnull 109, 3) := by decide +kernel
theorem d41_11 : decode prog_32_method_4_code 11 = .ok (.ldc2_w 26, 3) := by decide +kernel
theorem d41_14 : decode prog_32_method_4_code 14 = .ok (.aload_n 0, 1) := by decide +kernel
theorem d41_15 : decode prog_32_method_4_code 15 = .ok (.getfield 28, 3) := by decide +kernel
theorem d41_18 : decode prog_32_method_4_code 18 = .ok (.iconst 1, 1) := by decide +kernel
theorem d41_19 : decode prog_32_method_4_code 19 = .ok (.iadd, 1) := by decide +kernel
theorem d41_20 : decode prog_32_method_4_code 20 = .ok (.i2l, 1) := by decide +kernel
theorem d41_21 : decode prog_32_method_4_code 21 = .ok (.lmul, 1) := by decide +kernel
theorem d41_22 : decode prog_32_method_4_code 22 = .ok (.aload_n 0, 1) := by decide +kernel
theorem d41_23 : decode prog_32_method_4_code 23 = .ok (.getfield 15, 3) := by decide +kernel
theorem d41_26 : decode prog_32_method_4_code 26 = .ok (.arraylength, 1) := by decide +kernel
theorem d41_27 : decode prog_32_method_4_code 27 = .ok (.i2l, 1) := by decide +kernel
theorem d41_28 : decode prog_32_method_4_code 28 = .ok (.lcmp, 1) := by decide +kernel
theorem d41_29 : decode prog_32_method_4_code 29 = .ok (.ifCond .le 88, 3) := by decide +kernel
theorem d41_32 : decode prog_32_method_4_code 32 = .ok (.aload_n 0, 1) := by decide +kernel
theorem d41_33 : decode prog_32_method_4_code 33 = .ok (.aload_n 0, 1) := by decide +kernel
theorem d41_34 : decode prog_32_method_4_code 34 = .ok (.getfield 9, 3) := by decide +kernel
theorem d41_37 : decode prog_32_method_4_code 37 = .ok (.iconst 1, 1) := by decide +kernel
theorem d41_38 : decode prog_32_method_4_code 38 = .ok (.iadd, 1) := by decide +kernel
theorem d41_39 : decode prog_32_method_4_code 39 = .ok (.newarray .int, 2) := by decide +kernel
theorem d41_41 : decode prog_32_method_4_code 41 = .ok (.putfield 19, 3) := by decide +kernel
theorem d41_44 : decode prog_32_method_4_code 44 = .ok (.iconst 0, 1) := by decide +kernel
theorem d41_45 : decode prog_32_method_4_code 45 = .ok (.istore_n 3, 1) := by decide +kernel
theorem d41_46 : decode prog_32_method_4_code 46 = .ok (.iload_n 3, 1) := by decide +kernel
theorem d41_47 : decode prog_32_method_4_code 47 = .ok (.aload_n 0, 1) := by decide +kernel
theorem d41_48 : decode prog_32_method_4_code 48 = .ok (.getfield 15, 3) := by decide +kernel
theorem d41_51 : decode prog_32_method_4_code 51 = .ok (.arraylength, 1) := by decide +kernel
theorem d41_52 : decode prog_32_method_4_code 52 = .ok (.if_icmp .ge 57, 3) := by decide +kernel
theorem d41_55 : decode prog_32_method_4_code 55 = .ok (.aload_n 0, 1) := by decide +kernel
theorem d41_56 : decode prog_32_method_4_code 56 = .ok (.getfield 15, 3) := by decide +kernel
theorem d41_59 : decode prog_32_method_4_code 59 = .ok (.iload_n 3, 1) := by decide +kernel
theorem d41_60 : decode prog_32_method_4_code 60 = .ok (.aaload, 1) := by decide +kernel
theorem d41_61 : decode prog_32_method_4_code 61 = .ok (.ifnull 42, 3) := by decide +kernel
theorem d41_64 : decode prog_32_method_4_code 64 = .ok (.iload_n 3, 1) := by decide +kernel
theorem d41_65 : decode prog_32_method_4_code 65 = .ok (.bipush 6, 2) := by decide +kernel
theorem d41_67 : decode prog_32_method_4_code 67 = .ok (.ishl, 1) := by decide +kernel
theorem d41_68 : decode prog_32_method_4_code 68 = .ok (.istore 4, 2) := by decide +kernel
theorem d41_70 : decode prog_32_method_4_code 70 = .ok (.bipush 64, 2) := by decide +kernel
theorem d41_72 : decode prog_32_method_4_code 72 = .ok (.aload_n 0, 1) := by decide +kernel
theorem d41_73 : decode prog_32_method_4_code 73 = .ok (.getfield 19, 3) := by decide +kernel
theorem d41_76 : decode prog_32_method_4_code 76 = .ok (.arraylength, 1) := by decide +kernel
theorem d41_77 : decode prog_32_method_4_code 77 = .ok (.iload 4, 2) := by decide +kernel
theorem d41_79 : decode prog_32_method_4_code 79 = .ok (.isub, 1) := by decide +kernel
theorem d41_80 : decode prog_32_method_4_code 80 = .ok (.invokestatic 31, 3) := by decide +kernel
theorem d41_83 : decode prog_32_method_4_code 83 = .ok (.istore 5, 2) := by decide +kernel
theorem d41_85 : decode prog_32_method_4_code 85 = .ok (.aload_n 0, 1) := by decide +kernel
theorem d41_86 : decode prog_32_method_4_code 86 = .ok (.getfield 15, 3) := by decide +kernel
theorem d41_89 : decode prog_32_method_4_code 89 = .ok (.iload_n 3, 1) := by decide +kernel
theorem d41_90 : decode prog_32_method_4_code 90 = .ok (.aaload, 1) := by decide +kernel
theorem d41_91 : decode prog_32_method_4_code 91 = .ok (.iconst 0, 1) := by decide +kernel
theorem d41_92 : decode prog_32_method_4_code 92 = .ok (.aload_n 0, 1) := by decide +kernel
theorem d41_93 : decode prog_32_method_4_code 93 = .ok (.getfield 19, 3) := by decide +kernel
theorem d41_96 : decode prog_32_method_4_code 96 = .ok (.iload 4, 2) := by decide +kernel
theorem d41_98 : decode prog_32_method_4_code 98 = .ok (.iload 5, 2) := by decide +kernel
theorem d41_100 : decode prog_32_method_4_code 100 = .ok (.invokestatic 37, 3) := by decide +kernel
theorem d41_103 : decode prog_32_method_4_code 103 = .ok (.iinc 3 1, 3) := by decide +kernel
theorem d41_106 : decode prog_32_method_4_code 106 = .ok (.goto (-60), 3) := by decide +kernel
theorem d41_109 : decode prog_32_method_4_code 109 = .ok (.aload_n 0, 1) := by decide +kernel
theorem d41_110 : decode prog_32_method_4_code 110 = .ok (.aconst_null, 1) := by decide +kernel
theorem d41_111 : decode prog_32_method_4_code 111 = .ok (.putfield 15, 3) := by decide +kernel
theorem d41_114 : decode prog_32_method_4_code 114 = .ok (.goto 29, 3) := by decide +kernel
theorem d41_117 : decode prog_32_method_4_code 117 = .ok (.aload_n 2, 1) := by decide +kernel
theorem d41_118 : decode prog_32_method_4_code 118 = .ok (.ifnonnull 25, 3) := by decide +kernel
theorem d41_121 : decode prog_32_method_4_code 121 = .ok (.bipush 64, 2) := by decide +kernel
theorem d41_123 : decode prog_32_method_4_code 123 = .ok (.newarray .int, 2) := by decide +kernel
theorem d41_125 : decode prog_32_method_4_code 125 = .ok (.astore_n 2, 1) := by decide +kernel
theorem d41_126 : decode prog_32_method_4_code 126 = .ok (.aload_n 0, 1) := by decide +kernel
theorem d41_127 : decode prog_32_method_4_code 127 = .ok (.getfield 15, 3) := by decide +kernel
theorem d41_130 : decode prog_32_method_4_code 130 = .ok (.iload_n 1, 1) := by decide +kernel
theorem d41_131 : decode prog_32_method_4_code 131 = .ok (.aload_n 2, 1) := by decide +kernel
theorem d41_132 : decode prog_32_method_4_code 132 = .ok (.aastore, 1) := by decide +kernel
theorem d41_133 : decode prog_32_method_4_code 133 = .ok (.aload_n 0, 1) := by decide +kernel
theorem d41_134 : decode prog_32_method_4_code 134 = .ok (.dup, 1) := by decide +kernel
theorem d41_135 : decode prog_32_method_4_code 135 = .ok (.getfield 28, 3) := by decide +kernel
theorem d41_138 : decode prog_32_method_4_code 138 = .ok (.iconst 1, 1) := by decide +kernel
theorem d41_139 : decode prog_32_method_4_code 139 = .ok (.iadd, 1) := by decide +kernel
theorem d41_140 : decode prog_32_method_4_code 140 = .ok (.putfield 28, 3) := by decide +kernel
theorem d41_143 : decode prog_32_method_4_code 143 = .ok (.aload_n 2, 1) := by decide +kernel
theorem d41_144 : decode prog_32_method_4_code 144 = .ok (.areturn, 1) := by decide +kernel
theorem ef_41 (m : MethodId) (x0 : Addr) (x1 : Int32) : entryFrame m #[(.ref x0), (.int x1)] 6 = mkF m 0 #[.val (.ref x0), .val (.int x1), .unset, .unset, .unset, .unset] [] := by first | (simp [entryFrame, mkF, argsToLocals, Value.category]; done) | rfl
def Q41 (Z : State) (a1 : Addr) (iv n : Int32) (f : Nat → Int32) (pf : Nat → Value) (cT : Addr) (mu : Int32) (kT : ClassId) (h0 : Heap) (n0 : Nat) (v : Option Value) (h : Heap) (L : List Loc) : Prop := Fr n0 L ∧ Old Z n0 h ∧ n0 ≤ h.size ∧ PgQ Z h n0 a1 n (iv.toInt.toNat / 64) f (1 + 1) cT kT v
set_option maxRecDepth 65536 in
set_option maxHeartbeats 40000000 in
theorem lp41 {p : Program} {l : Launch} {e : Env} {s : State} {m : MethodId} {args : Array Value} {below : List Frame} {meth : Method} {c : Code} (Z : State) (a0 : Array Value) (hw : ∀ d ∈ tables_1, d.before a0 Z = true) (a1 : Addr) (iv n : Int32) (f : Nat → Int32) (pf : Nat → Value) (cT : Addr) (mu : Int32) (kT : ClassId) (h0 : Heap) (n0 : Nat) (g1 : n0 ≤ a1) (gc : n0 ≤ cT) (hn : OkN n) (b : Addr) (kb : ClassId) (q_b : n0 ≤ b) (pn_b : ∀ i (p : Addr), i < (own_L n).toNatClampNeg → pf i = .ref p → p ≠ b) (ne_a : a1 ≠ b) (ne_c : cT ≠ b) (hx : p.tables.exec = Jvm.exec) (hZ : Z.Warmed39 s.vm) (hby : c.code = prog_32_method_4_code) (hml : c.maxLocals = 6) (hown : s.vm.findClass "com/example/dispatchwave/dispatchwave/model/VertexLabels" = some m.cls) (hnm : meth.name = "page") (hlk : meth.locks = false) (hret : meth.sig.returnType = some (.array .int)) :
    ∀ (kk : Nat) (T0 : State) (hh : Heap) (locs : List Loc) (i : Int32) (s4 s5 : Slot), OneS s4 → OneS s5 → 0 ≤ i.toInt → i.toInt + kk = (own_L n).toInt → Stand p l e ({ frames := 1, cells := 1, slots := 448, locals := 40 } : Room) s m args below meth c T0 locs 1 448 → T0.heap = hh → Fr n0 locs → Old Z n0 hh → n0 ≤ hh.size → Exa Z hh a1 "com/example/dispatchwave/dispatchwave/model/VertexLabels" → Fld Z hh a1 "com/example/dispatchwave/dispatchwave/model/VertexLabels" "vertexCount" "I" (.int n) → Fld Z hh a1 "com/example/dispatchwave/dispatchwave/model/VertexLabels" "array" "[I" (.ref b) → Fld Z hh a1 "com/example/dispatchwave/dispatchwave/model/VertexLabels" "pages" "[[I" (.ref cT) → Arv Z hh cT kT (.array .int) (own_L n) (lstV pf (own_L n).toNatClampNeg) .null → Arv Z hh b kb .int (n + 1) (lst (own_part f i.toInt.toNat) (n + 1).toNatClampNeg) (.int (0 : Int32)) → PP Z hh n0 pf (own_L n).toNatClampNeg f → OwnEnds p.tables e below s ({ frames := 1, cells := 1, slots := 448, locals := 40 } : Room).cells ({ frames := 1, cells := 1, slots := 448, locals := 40 } : Room).slots (Q41 Z a1 iv n f pf cT mu kT h0 n0) (T0.setTop (mkF m 46 #[.val (.ref a1), .val (.int (own_sh6 iv)), .val .null, .val (.int i), s4, s5] [])) := by
  intro kk
  induction kk with
  | zero =>
    intro T0 hh locs i s4 s5 hs4 hs5 hi0 hik X0 e0 N0 OLD0 Z0 E_1 F_n F_a F_p V_c V_b PP0
    show OwnEnds _ _ _ _ _ _ _ (T0.setTop (mkF m 46 #[.val (.ref a1), .val (.int (own_sh6 iv)), .val .null, .val (.int i), s4, s5] []))
    refine ogo (fun t k => XS.iloadN X0.here hx rfl (hb hby d41_46) rfl k) ?_
    show OwnEnds _ _ _ _ _ _ _ (T0.setTop (mkF m 47 #[.val (.ref a1), .val (.int (own_sh6 iv)), .val .null, .val (.int i), s4, s5] [(.int i)]))
    refine ogo (fun t k => XS.aloadN X0.here hx rfl (hb hby d41_47) rfl rfl k) ?_
    show OwnEnds _ _ _ _ _ _ _ (T0.setTop (mkF m 48 #[.val (.ref a1), .val (.int (own_sh6 iv)), .val .null, .val (.int i), s4, s5] [(.ref a1), (.int i)]))
    obtain ⟨T31, X31, e31, st31⟩ := getF X0 hx hZ hown (host := "") (Or.inl (hw _ (List.mem_of_getElem? (i := 18) rfl))) Via.refl e0 F_p (g := (mkF m 48 #[.val (.ref a1), .val (.int (own_sh6 iv)), .val .null, .val (.int i), s4, s5] [(.ref a1), (.int i)])) rfl rfl (hb hby d41_48)
    refine ogo st31 ?_
    show OwnEnds _ _ _ _ _ _ _ (T31.setTop (mkF m 51 #[.val (.ref a1), .val (.int (own_sh6 iv)), .val .null, .val (.int i), s4, s5] [(.ref cT), (.int i)]))
    obtain ⟨cl32, Ar32, Aq32, As32, An32, Ah32, Ag32⟩ := id V_c
    refine ogo (fun t k => X31.arraylength hx (by rw [e31]; exact Ar32.1) (State.isArrayOf_alike hZ.alike Ar32.2.1) (g := (mkF m 51 #[.val (.ref a1), .val (.int (own_sh6 iv)), .val .null, .val (.int i), s4, s5] [(.ref cT), (.int i)])) rfl rfl (hb hby d41_51) t k) ?_
    rw [len_of As32 An32]
    show OwnEnds _ _ _ _ _ _ _ (T31.setTop (mkF m 52 #[.val (.ref a1), .val (.int (own_sh6 iv)), .val .null, .val (.int i), s4, s5] [(.int (own_L n)), (.int i)]))
    refine ogo (fun t k => XS.icmpYes X31.here hx rfl (pc0 := 52) (pc' := 109) rfl (hb hby d41_52) rfl (flt (fun q => by rw [Int32.lt_iff_toInt_lt] at q; omega)).2.1 (by decide) (by decide) k) ?_
    show OwnEnds _ _ _ _ _ _ _ (T31.setTop (mkF m 109 #[.val (.ref a1), .val (.int (own_sh6 iv)), .val .null, .val (.int i), s4, s5] []))
    refine ogo (fun t k => XS.aloadN X31.here hx rfl (hb hby d41_109) rfl rfl k) ?_
    show OwnEnds _ _ _ _ _ _ _ (T31.setTop (mkF m 110 #[.val (.ref a1), .val (.int (own_sh6 iv)), .val .null, .val (.int i), s4, s5] [(.ref a1)]))
    refine ogo (fun t k => XS.aconstNull X31.here hx rfl (hb hby d41_110) k) ?_
    show OwnEnds _ _ _ _ _ _ _ (T31.setTop (mkF m 111 #[.val (.ref a1), .val (.int (own_sh6 iv)), .val .null, .val (.int i), s4, s5] [.null, (.ref a1)]))
    obtain ⟨T33, h33, X33, e33, W33, st33⟩ := putF X31 hx hZ hown (host := "") (Or.inl (hw _ (List.mem_of_getElem? (i := 18) rfl))) Via.refl e31 F_p E_1 (Or.inl (hw _ (List.mem_of_getElem? (i := 19) rfl))) (hw _ (List.mem_of_getElem? (i := 6) rfl)) (ty := (.array (.array .int))) (by decide) rfl rfl (g := (mkF m 111 #[.val (.ref a1), .val (.int (own_sh6 iv)), .val .null, .val (.int i), s4, s5] [.null, (.ref a1)])) rfl rfl (hb hby d41_111)
    have nx34 : cT ≠ a1 := (Av.neObj ⟨_, V_c⟩ E_1 (hw _ (List.mem_of_getElem? (i := 6) rfl)))
    have nx35 : b ≠ a1 := (Ne.symm ne_a)
    have f36 := E_1.wr W33
    have f37 := F_n.other W33 (Or.inr (slot_ne (Or.inr (hw _ (List.mem_of_getElem? (i := 15) rfl))) (Or.inl (hw _ (List.mem_of_getElem? (i := 19) rfl))) (by decide) (t := .int) (t' := (.array (.array .int))) (by decide) (by decide)))
    have f38 := F_a.other W33 (Or.inr (slot_ne (Or.inl (hw _ (List.mem_of_getElem? (i := 26) rfl))) (Or.inl (hw _ (List.mem_of_getElem? (i := 19) rfl))) (by decide) (t := (.array .int)) (t' := (.array (.array .int))) (by decide) (by decide)))
    have f39 := F_p.same W33
    have f40 := V_c.other W33 nx34
    have f41 := V_b.other W33 nx35
    have P42 := PP0.other W33 (PP0.neObj E_1 (hw _ (List.mem_of_getElem? (i := 6) rfl)))
    have N43 := Fr.snoc X33 N0 g1
    have OLD43 := OLD0.wr W33 g1
    have Z43 := Nat.le_trans Z0 (Nat.le_of_eq W33.size.symm)
    refine ogo st33 ?_
    show OwnEnds _ _ _ _ _ _ _ (T33.setTop (mkF m 114 #[.val (.ref a1), .val (.int (own_sh6 iv)), .val .null, .val (.int i), s4, s5] []))
    refine ogo (fun t k => XS.goto X33.here hx rfl (pc0 := 114) (pc' := 143) rfl (hb hby d41_114) (by decide) (by decide) k) ?_
    show OwnEnds _ _ _ _ _ _ _ (T33.setTop (mkF m 143 #[.val (.ref a1), .val (.int (own_sh6 iv)), .val .null, .val (.int i), s4, s5] []))
    refine ogo (fun t k => XS.aloadN X33.here hx rfl (hb hby d41_143) rfl rfl k) ?_
    show OwnEnds _ _ _ _ _ _ _ (T33.setTop (mkF m 144 #[.val (.ref a1), .val (.int (own_sh6 iv)), .val .null, .val (.int i), s4, s5] [.null]))
    refine endA X33 hx hlk hret rfl rfl (hb hby d41_144) (by decide) (by decide) ?_
    show Q41 Z a1 iv n f pf cT mu kT h0 n0 _ T33.heap _
    rw [e33]
    have Vf := f41
    rw [show i.toInt.toNat = (own_L n).toInt.toNat by omega, part_all hn] at Vf
    exact ⟨N43, OLD43, Z43, Or.inr ⟨rfl, ⟨g1, f36, f37⟩, b, q_b, f38, ⟨_, Vf⟩⟩⟩
  | succ kk ih =>
    intro T0 hh locs i s4 s5 hs4 hs5 hi0 hik X0 e0 N0 OLD0 Z0 E_1 F_n F_a F_p V_c V_b PP0
    have hlt : i.toInt < (own_L n).toInt := by omega
    have hi1 := own_i1 hn hi0 hlt
    show OwnEnds _ _ _ _ _ _ _ (T0.setTop (mkF m 46 #[.val (.ref a1), .val (.int (own_sh6 iv)), .val .null, .val (.int i), s4, s5] []))
    refine ogo (fun t k => XS.iloadN X0.here hx rfl (hb hby d41_46) rfl k) ?_
    show OwnEnds _ _ _ _ _ _ _ (T0.setTop (mkF m 47 #[.val (.ref a1), .val (.int (own_sh6 iv)), .val .null, .val (.int i), s4, s5] [(.int i)]))
    refine ogo (fun t k => XS.aloadN X0.here hx rfl (hb hby d41_47) rfl rfl k) ?_
    show OwnEnds _ _ _ _ _ _ _ (T0.setTop (mkF m 48 #[.val (.ref a1), .val (.int (own_sh6 iv)), .val .null, .val (.int i), s4, s5] [(.ref a1), (.int i)]))
    obtain ⟨T44, X44, e44, st44⟩ := getF X0 hx hZ hown (host := "") (Or.inl (hw _ (List.mem_of_getElem? (i := 18) rfl))) Via.refl e0 F_p (g := (mkF m 48 #[.val (.ref a1), .val (.int (own_sh6 iv)), .val .null, .val (.int i), s4, s5] [(.ref a1), (.int i)])) rfl rfl (hb hby d41_48)
    refine ogo st44 ?_
    show OwnEnds _ _ _ _ _ _ _ (T44.setTop (mkF m 51 #[.val (.ref a1), .val (.int (own_sh6 iv)), .val .null, .val (.int i), s4, s5] [(.ref cT), (.int i)]))
    obtain ⟨cl45, Ar45, Aq45, As45, An45, Ah45, Ag45⟩ := id V_c
    refine ogo (fun t k => X44.arraylength hx (by rw [e44]; exact Ar45.1) (State.isArrayOf_alike hZ.alike Ar45.2.1) (g := (mkF m 51 #[.val (.ref a1), .val (.int (own_sh6 iv)), .val .null, .val (.int i), s4, s5] [(.ref cT), (.int i)])) rfl rfl (hb hby d41_51) t k) ?_
    rw [len_of As45 An45]
    show OwnEnds _ _ _ _ _ _ _ (T44.setTop (mkF m 52 #[.val (.ref a1), .val (.int (own_sh6 iv)), .val .null, .val (.int i), s4, s5] [(.int (own_L n)), (.int i)]))
    refine ogo (fun t k => XS.icmpNo X44.here hx rfl (hb hby d41_52) rfl (tlt (Int32.lt_iff_toInt_lt.mpr hlt)).2.1 k) ?_
    show OwnEnds _ _ _ _ _ _ _ (T44.setTop (mkF m 55 #[.val (.ref a1), .val (.int (own_sh6 iv)), .val .null, .val (.int i), s4, s5] []))
    refine ogo (fun t k => XS.aloadN X44.here hx rfl (hb hby d41_55) rfl rfl k) ?_
    show OwnEnds _ _ _ _ _ _ _ (T44.setTop (mkF m 56 #[.val (.ref a1), .val (.int (own_sh6 iv)), .val .null, .val (.int i), s4, s5] [(.ref a1)]))
    obtain ⟨T46, X46, e46, st46⟩ := getF X44 hx hZ hown (host := "") (Or.inl (hw _ (List.mem_of_getElem? (i := 18) rfl))) Via.refl e44 F_p (g := (mkF m 56 #[.val (.ref a1), .val (.int (own_sh6 iv)), .val .null, .val (.int i), s4, s5] [(.ref a1)])) rfl rfl (hb hby d41_56)
    refine ogo st46 ?_
    show OwnEnds _ _ _ _ _ _ _ (T46.setTop (mkF m 59 #[.val (.ref a1), .val (.int (own_sh6 iv)), .val .null, .val (.int i), s4, s5] [(.ref cT)]))
    refine ogo (fun t k => XS.iloadN X46.here hx rfl (hb hby d41_59) rfl k) ?_
    show OwnEnds _ _ _ _ _ _ _ (T46.setTop (mkF m 60 #[.val (.ref a1), .val (.int (own_sh6 iv)), .val .null, .val (.int i), s4, s5] [(.int i), (.ref cT)]))
    obtain ⟨cl47, Ar47, Aq47, As47, An47, Ah47, Ag47⟩ := id V_c
    rcases PP0 _ (own_li hn hi0 hlt).2.2 with ⟨e0t, z0t⟩ | ⟨p, e0t, g0t, V0t⟩
    · refine ogo (fun t k => X46.aaload hx (j := i) (v := .null) (by rw [e46]; exact Ar47.1) (State.isArrayOf_alike hZ.alike Ar47.2.1) rfl Ar47.2.2 (inb_of As47 (own_li hn hi0 hlt).1) (Ah47.at (inb_of As47 (own_li hn hi0 hlt).1) ((congrArg (fun t => (lstV pf (own_L n).toNatClampNeg).getD t .null) (own_li hn hi0 hlt).2.1).trans ((lstV_at (own_li hn hi0 hlt).2.2).trans e0t))) (g := (mkF m 60 #[.val (.ref a1), .val (.int (own_sh6 iv)), .val .null, .val (.int i), s4, s5] [(.int i), (.ref cT)])) rfl rfl (hb hby d41_60) t k) ?_
      show OwnEnds _ _ _ _ _ _ _ (T46.setTop (mkF m 61 #[.val (.ref a1), .val (.int (own_sh6 iv)), .val .null, .val (.int i), s4, s5] [.null]))
      refine ogo (fun t k => XS.ifnullYes X46.here hx rfl (pc0 := 61) (pc' := 103) rfl (hb hby d41_61) rfl (by decide) (by decide) k) ?_
      show OwnEnds _ _ _ _ _ _ _ (T46.setTop (mkF m 103 #[.val (.ref a1), .val (.int (own_sh6 iv)), .val .null, .val (.int i), s4, s5] []))
      refine ogo (fun t k => XS.iinc X46.here hx rfl (hb hby d41_103) rfl (l' := #[.val (.ref a1), .val (.int (own_sh6 iv)), .val .null, .val (.int (i + (1 : Int32))), s4, s5]) rfl k) ?_
      show OwnEnds _ _ _ _ _ _ _ (T46.setTop (mkF m 106 #[.val (.ref a1), .val (.int (own_sh6 iv)), .val .null, .val (.int (i + (1 : Int32))), s4, s5] []))
      refine ogo (fun t k => XS.goto X46.here hx rfl (pc0 := 106) (pc' := 46) rfl (hb hby d41_106) (by decide) (by decide) k) ?_
      exact ih T46 hh _ (i + 1) (s4) (s5) hs4 hs5 (by rw [hi1]; omega) (by rw [hi1]; omega) X46 e46 N0 OLD0 Z0 E_1 F_n F_a F_p V_c (by rw [hi1, show (i.toInt + 1).toNat = i.toInt.toNat + 1 by omega, ← part_null z0t]; exact V_b) PP0
    · refine ogo (fun t k => X46.aaload hx (j := i) (v := (.ref p)) (by rw [e46]; exact Ar47.1) (State.isArrayOf_alike hZ.alike Ar47.2.1) rfl Ar47.2.2 (inb_of As47 (own_li hn hi0 hlt).1) (Ah47.at (inb_of As47 (own_li hn hi0 hlt).1) ((congrArg (fun t => (lstV pf (own_L n).toNatClampNeg).getD t .null) (own_li hn hi0 hlt).2.1).trans ((lstV_at (own_li hn hi0 hlt).2.2).trans e0t))) (g := (mkF m 60 #[.val (.ref a1), .val (.int (own_sh6 iv)), .val .null, .val (.int i), s4, s5] [(.int i), (.ref cT)])) rfl rfl (hb hby d41_60) t k) ?_
      show OwnEnds _ _ _ _ _ _ _ (T46.setTop (mkF m 61 #[.val (.ref a1), .val (.int (own_sh6 iv)), .val .null, .val (.int i), s4, s5] [(.ref p)]))
      refine ogo (fun t k => XS.ifnullNo X46.here hx rfl (hb hby d41_61) rfl k) ?_
      show OwnEnds _ _ _ _ _ _ _ (T46.setTop (mkF m 64 #[.val (.ref a1), .val (.int (own_sh6 iv)), .val .null, .val (.int i), s4, s5] []))
      refine ogo (fun t k => XS.iloadN X46.here hx rfl (hb hby d41_64) rfl k) ?_
      show OwnEnds _ _ _ _ _ _ _ (T46.setTop (mkF m 65 #[.val (.ref a1), .val (.int (own_sh6 iv)), .val .null, .val (.int i), s4, s5] [(.int i)]))
      refine ogo (fun t k => XS.bipush X46.here hx rfl (hb hby d41_65) k) ?_
      show OwnEnds _ _ _ _ _ _ _ (T46.setTop (mkF m 67 #[.val (.ref a1), .val (.int (own_sh6 iv)), .val .null, .val (.int i), s4, s5] [(.int (6 : Int32)), (.int i)]))
      refine ogo (fun t k => XS.ishl X46.here hx rfl (hb hby d41_67) rfl k) ?_
      show OwnEnds _ _ _ _ _ _ _ (T46.setTop (mkF m 68 #[.val (.ref a1), .val (.int (own_sh6 iv)), .val .null, .val (.int i), s4, s5] [(.int (i <<< ((6 : Int32) &&& 31)))]))
      refine ogo (fun t k => XS.istore X46.here hx rfl (hb hby d41_68) rfl (l' := #[.val (.ref a1), .val (.int (own_sh6 iv)), .val .null, .val (.int i), .val (.int (i <<< ((6 : Int32) &&& 31))), s5]) (by rcases hs4 with rfl | ⟨z, rfl⟩ <;> rfl) k) ?_
      show OwnEnds _ _ _ _ _ _ _ (T46.setTop (mkF m 70 #[.val (.ref a1), .val (.int (own_sh6 iv)), .val .null, .val (.int i), .val (.int (i <<< ((6 : Int32) &&& 31))), s5] []))
      refine ogo (fun t k => XS.bipush X46.here hx rfl (hb hby d41_70) k) ?_
      show OwnEnds _ _ _ _ _ _ _ (T46.setTop (mkF m 72 #[.val (.ref a1), .val (.int (own_sh6 iv)), .val .null, .val (.int i), .val (.int (i <<< ((6 : Int32) &&& 31))), s5] [(.int (64 : Int32))]))
      refine ogo (fun t k => XS.aloadN X46.here hx rfl (hb hby d41_72) rfl rfl k) ?_
      show OwnEnds _ _ _ _ _ _ _ (T46.setTop (mkF m 73 #[.val (.ref a1), .val (.int (own_sh6 iv)), .val .null, .val (.int i), .val (.int (i <<< ((6 : Int32) &&& 31))), s5] [(.ref a1), (.int (64 : Int32))]))
      obtain ⟨T49, X49, e49, st49⟩ := getF X46 hx hZ hown (host := "") (Or.inl (hw _ (List.mem_of_getElem? (i := 25) rfl))) Via.refl e46 F_a (g := (mkF m 73 #[.val (.ref a1), .val (.int (own_sh6 iv)), .val .null, .val (.int i), .val (.int (i <<< ((6 : Int32) &&& 31))), s5] [(.ref a1), (.int (64 : Int32))])) rfl rfl (hb hby d41_73)
      refine ogo st49 ?_
      show OwnEnds _ _ _ _ _ _ _ (T49.setTop (mkF m 76 #[.val (.ref a1), .val (.int (own_sh6 iv)), .val .null, .val (.int i), .val (.int (i <<< ((6 : Int32) &&& 31))), s5] [(.ref b), (.int (64 : Int32))]))
      obtain ⟨cl50, Ar50, Aq50, As50, An50, Ah50, Ag50⟩ := id V_b
      refine ogo (fun t k => X49.arraylength hx (by rw [e49]; exact Ar50.1) (State.isArrayOf_alike hZ.alike Ar50.2.1) (g := (mkF m 76 #[.val (.ref a1), .val (.int (own_sh6 iv)), .val .null, .val (.int i), .val (.int (i <<< ((6 : Int32) &&& 31))), s5] [(.ref b), (.int (64 : Int32))])) rfl rfl (hb hby d41_76) t k) ?_
      rw [len_of As50 An50]
      show OwnEnds _ _ _ _ _ _ _ (T49.setTop (mkF m 77 #[.val (.ref a1), .val (.int (own_sh6 iv)), .val .null, .val (.int i), .val (.int (i <<< ((6 : Int32) &&& 31))), s5] [(.int (n + 1)), (.int (64 : Int32))]))
      refine ogo (fun t k => XS.iload X49.here hx rfl (hb hby d41_77) rfl k) ?_
      show OwnEnds _ _ _ _ _ _ _ (T49.setTop (mkF m 79 #[.val (.ref a1), .val (.int (own_sh6 iv)), .val .null, .val (.int i), .val (.int (i <<< ((6 : Int32) &&& 31))), s5] [(.int (i <<< ((6 : Int32) &&& 31))), (.int (n + 1)), (.int (64 : Int32))]))
      refine ogo (fun t k => XS.isub X49.here hx rfl (hb hby d41_79) rfl k) ?_
      show OwnEnds _ _ _ _ _ _ _ (T49.setTop (mkF m 80 #[.val (.ref a1), .val (.int (own_sh6 iv)), .val .null, .val (.int i), .val (.int (i <<< ((6 : Int32) &&& 31))), s5] [(.int ((n + 1) - (i <<< ((6 : Int32) &&& 31)))), (.int (64 : Int32))]))
      obtain ⟨v51, _, ⟨T51, L51, k51, n51⟩, -, X51, ⟨Lc51, hQ51, l51, y51, z51⟩, st51⟩ := Jvm.LawKit.callS X49 hx (y := (⟨"java/lang/Math", "min", "(II)I"⟩ : MethodName)) hown (mvT hZ (hw _ (List.mem_of_getElem? (i := 44) rfl))) (mvT hZ (hw _ (List.mem_of_getElem? (i := 45) rfl))) (mvT hZ (hw _ (List.mem_of_getElem? (i := 46) rfl))) (mvT hZ (hw _ (List.mem_of_getElem? (i := 47) rfl))) (by decide) (backOf (W := 0) (rm3 l Z a0 hw [] (64 : Int32) ((n + 1) - (i <<< ((6 : Int32) &&& 31))) hh n0 Z0 ) hZ (hw _ (List.mem_of_getElem? (i := 47) rfl)) (hw _ (List.mem_of_getElem? (i := 46) rfl)) (by decide) (by decide)) (g := (mkF m 80 #[.val (.ref a1), .val (.int (own_sh6 iv)), .val .null, .val (.int i), .val (.int (i <<< ((6 : Int32) &&& 31))), s5] [(.int ((n + 1) - (i <<< ((6 : Int32) &&& 31)))), (.int (64 : Int32))])) rfl (by rw [hml]; rfl) (argsL := [(.int (64 : Int32)), (.int ((n + 1) - (i <<< ((6 : Int32) &&& 31))))]) (rest := []) (lenOf pd__II_I rfl) rfl (by show 2 * 0 + _ ≤ _; exact Nat.le_of_eq rfl) (hb hby d41_80) (fun _ _ => ⟨rfl, e49, (by decide : 1 + 0 ≤ _), (by decide : 448 + 0 ≤ _)⟩)
      dsimp only [Pt.U, Pt.locs, Pt.cells, Pt.slots] at X51 l51 y51 z51 st51 hQ51
      subst l51 y51 z51
      obtain ⟨rfl, N51q, e51⟩ := hQ51
      have N51 := Fr.app N0 N51q
      refine ogo (fun t k => st51 t k) ?_
      show OwnEnds _ _ _ _ _ _ _ (T51.setTop (mkF m 83 #[.val (.ref a1), .val (.int (own_sh6 iv)), .val .null, .val (.int i), .val (.int (i <<< ((6 : Int32) &&& 31))), s5] [(.int (own_min (64 : Int32) ((n + 1) - (i <<< ((6 : Int32) &&& 31)))))]))
      refine ogo (fun t k => XS.istore X51.here hx rfl (hb hby d41_83) rfl (l' := #[.val (.ref a1), .val (.int (own_sh6 iv)), .val .null, .val (.int i), .val (.int (i <<< ((6 : Int32) &&& 31))), .val (.int (own_min (64 : Int32) ((n + 1) - (i <<< ((6 : Int32) &&& 31)))))]) (by rcases hs5 with rfl | ⟨z, rfl⟩ <;> rfl) k) ?_
      show OwnEnds _ _ _ _ _ _ _ (T51.setTop (mkF m 85 #[.val (.ref a1), .val (.int (own_sh6 iv)), .val .null, .val (.int i), .val (.int (i <<< ((6 : Int32) &&& 31))), .val (.int (own_min (64 : Int32) ((n + 1) - (i <<< ((6 : Int32) &&& 31)))))] []))
      refine ogo (fun t k => XS.aloadN X51.here hx rfl (hb hby d41_85) rfl rfl k) ?_
      show OwnEnds _ _ _ _ _ _ _ (T51.setTop (mkF m 86 #[.val (.ref a1), .val (.int (own_sh6 iv)), .val .null, .val (.int i), .val (.int (i <<< ((6 : Int32) &&& 31))), .val (.int (own_min (64 : Int32) ((n + 1) - (i <<< ((6 : Int32) &&& 31)))))] [(.ref a1)]))
      obtain ⟨T52, X52, e52, st52⟩ := getF X51 hx hZ hown (host := "") (Or.inl (hw _ (List.mem_of_getElem? (i := 18) rfl))) Via.refl e51 F_p (g := (mkF m 86 #[.val (.ref a1), .val (.int (own_sh6 iv)), .val .null, .val (.int i), .val (.int (i <<< ((6 : Int32) &&& 31))), .val (.int (own_min (64 : Int32) ((n + 1) - (i <<< ((6 : Int32) &&& 31)))))] [(.ref a1)])) rfl rfl (hb hby d41_86)
      refine ogo st52 ?_
      show OwnEnds _ _ _ _ _ _ _ (T52.setTop (mkF m 89 #[.val (.ref a1), .val (.int (own_sh6 iv)), .val .null, .val (.int i), .val (.int (i <<< ((6 : Int32) &&& 31))), .val (.int (own_min (64 : Int32) ((n + 1) - (i <<< ((6 : Int32) &&& 31)))))] [(.ref cT)]))
      refine ogo (fun t k => XS.iloadN X52.here hx rfl (hb hby d41_89) rfl k) ?_
      show OwnEnds _ _ _ _ _ _ _ (T52.setTop (mkF m 90 #[.val (.ref a1), .val (.int (own_sh6 iv)), .val .null, .val (.int i), .val (.int (i <<< ((6 : Int32) &&& 31))), .val (.int (own_min (64 : Int32) ((n + 1) - (i <<< ((6 : Int32) &&& 31)))))] [(.int i), (.ref cT)]))
      obtain ⟨cl53, Ar53, Aq53, As53, An53, Ah53, Ag53⟩ := id V_c
      refine ogo (fun t k => X52.aaload hx (j := i) (v := (.ref p)) (by rw [e52]; exact Ar53.1) (State.isArrayOf_alike hZ.alike Ar53.2.1) rfl Ar53.2.2 (inb_of As53 (own_li hn hi0 hlt).1) (Ah53.at (inb_of As53 (own_li hn hi0 hlt).1) ((congrArg (fun t => (lstV pf (own_L n).toNatClampNeg).getD t .null) (own_li hn hi0 hlt).2.1).trans ((lstV_at (own_li hn hi0 hlt).2.2).trans e0t))) (g := (mkF m 90 #[.val (.ref a1), .val (.int (own_sh6 iv)), .val .null, .val (.int i), .val (.int (i <<< ((6 : Int32) &&& 31))), .val (.int (own_min (64 : Int32) ((n + 1) - (i <<< ((6 : Int32) &&& 31)))))] [(.int i), (.ref cT)])) rfl rfl (hb hby d41_90) t k) ?_
      show OwnEnds _ _ _ _ _ _ _ (T52.setTop (mkF m 91 #[.val (.ref a1), .val (.int (own_sh6 iv)), .val .null, .val (.int i), .val (.int (i <<< ((6 : Int32) &&& 31))), .val (.int (own_min (64 : Int32) ((n + 1) - (i <<< ((6 : Int32) &&& 31)))))] [(.ref p)]))
      refine ogo (fun t k => XS.iconst X52.here hx rfl (hb hby d41_91) k) ?_
      show OwnEnds _ _ _ _ _ _ _ (T52.setTop (mkF m 92 #[.val (.ref a1), .val (.int (own_sh6 iv)), .val .null, .val (.int i), .val (.int (i <<< ((6 : Int32) &&& 31))), .val (.int (own_min (64 : Int32) ((n + 1) - (i <<< ((6 : Int32) &&& 31)))))] [(.int (0 : Int32)), (.ref p)]))
      refine ogo (fun t k => XS.aloadN X52.here hx rfl (hb hby d41_92) rfl rfl k) ?_
      show OwnEnds _ _ _ _ _ _ _ (T52.setTop (mkF m 93 #[.val (.ref a1), .val (.int (own_sh6 iv)), .val .null, .val (.int i), .val (.int (i <<< ((6 : Int32) &&& 31))), .val (.int (own_min (64 : Int32) ((n + 1) - (i <<< ((6 : Int32) &&& 31)))))] [(.ref a1), (.int (0 : Int32)), (.ref p)]))
      obtain ⟨T55, X55, e55, st55⟩ := getF X52 hx hZ hown (host := "") (Or.inl (hw _ (List.mem_of_getElem? (i := 25) rfl))) Via.refl e52 F_a (g := (mkF m 93 #[.val (.ref a1), .val (.int (own_sh6 iv)), .val .null, .val (.int i), .val (.int (i <<< ((6 : Int32) &&& 31))), .val (.int (own_min (64 : Int32) ((n + 1) - (i <<< ((6 : Int32) &&& 31)))))] [(.ref a1), (.int (0 : Int32)), (.ref p)])) rfl rfl (hb hby d41_93)
      refine ogo st55 ?_
      show OwnEnds _ _ _ _ _ _ _ (T55.setTop (mkF m 96 #[.val (.ref a1), .val (.int (own_sh6 iv)), .val .null, .val (.int i), .val (.int (i <<< ((6 : Int32) &&& 31))), .val (.int (own_min (64 : Int32) ((n + 1) - (i <<< ((6 : Int32) &&& 31)))))] [(.ref b), (.int (0 : Int32)), (.ref p)]))
      refine ogo (fun t k => XS.iload X55.here hx rfl (hb hby d41_96) rfl k) ?_
      show OwnEnds _ _ _ _ _ _ _ (T55.setTop (mkF m 98 #[.val (.ref a1), .val (.int (own_sh6 iv)), .val .null, .val (.int i), .val (.int (i <<< ((6 : Int32) &&& 31))), .val (.int (own_min (64 : Int32) ((n + 1) - (i <<< ((6 : Int32) &&& 31)))))] [(.int (i <<< ((6 : Int32) &&& 31))), (.ref b), (.int (0 : Int32)), (.ref p)]))
      refine ogo (fun t k => XS.iload X55.here hx rfl (hb hby d41_98) rfl k) ?_
      show OwnEnds _ _ _ _ _ _ _ (T55.setTop (mkF m 100 #[.val (.ref a1), .val (.int (own_sh6 iv)), .val .null, .val (.int i), .val (.int (i <<< ((6 : Int32) &&& 31))), .val (.int (own_min (64 : Int32) ((n + 1) - (i <<< ((6 : Int32) &&& 31)))))] [(.int (own_min (64 : Int32) ((n + 1) - (i <<< ((6 : Int32) &&& 31))))), (.int (i <<< ((6 : Int32) &&& 31))), (.ref b), (.int (0 : Int32)), (.ref p)]))
      have hcp := own_cp hn hi0 hlt
      obtain ⟨kp56, Vs56⟩ := id V0t
      obtain ⟨T56, h56, L56, X56, e56, N56, K56, Vb56, st56⟩ := cpA X55 hx hZ hown (hw _ (List.mem_of_getElem? (i := 48) rfl)) (hw _ (List.mem_of_getElem? (i := 51) rfl)) (hw _ (List.mem_of_getElem? (i := 49) rfl)) (hw _ (List.mem_of_getElem? (i := 50) rfl)) e55 Vs56 V_b (Or.inl ⟨rfl, rfl⟩) (sp := (0 : Int32)) (dp := (i <<< ((6 : Int32) &&& 31))) (nn := (own_min (64 : Int32) ((n + 1) - (i <<< ((6 : Int32) &&& 31))))) (by decide) hcp.1 hcp.2.1 (by show 0 + _ ≤ 64; rw [Nat.zero_add]; exact hcp.2.2.2.1) (by rw [hcp.2.2.1]; exact hcp.2.2.2.2.1) rfl (by rw [lst_len, hcp.2.2.1]; exact hcp.2.2.2.2.1) N51 q_b (g := (mkF m 100 #[.val (.ref a1), .val (.int (own_sh6 iv)), .val .null, .val (.int i), .val (.int (i <<< ((6 : Int32) &&& 31))), .val (.int (own_min (64 : Int32) ((n + 1) - (i <<< ((6 : Int32) &&& 31)))))] [(.int (own_min (64 : Int32) ((n + 1) - (i <<< ((6 : Int32) &&& 31))))), (.int (i <<< ((6 : Int32) &&& 31))), (.ref b), (.int (0 : Int32)), (.ref p)])) rfl (by rw [hml]; rfl) rfl (hb hby d41_100) (by decide) (W := 0) (by show 2 * 0 + _ ≤ _; exact Nat.le_of_eq rfl) (by decide)
      have Vn56 : Arv Z h56 b kb .int (n + 1) (lst (own_part f (i.toInt.toNat + 1)) (n + 1).toNatClampNeg) (.int (0 : Int32)) := by
        have q := part_copy (f := f) (i := i.toInt.toNat) (N := (n + 1).toNatClampNeg) hcp.2.2.1 hcp.2.2.2.1 (by rw [hcp.2.2.1]; exact hcp.2.2.2.2.1) (by rw [hcp.2.2.1]; exact hcp.2.2.2.2.2)
        rw [← q]
        exact Vb56
      have f57 := E_1.keep K56
      have f58 := F_n.keep K56 (ninS ne_a nin0)
      have f59 := F_a.keep K56 (ninS ne_a nin0)
      have f60 := F_p.keep K56 (ninS ne_a nin0)
      have f61 := V_c.keep K56 (ninS ne_c nin0)
      have P62 := PP0.keep K56 (fun i p hi e => ninS (pn_b i p hi e) nin0)
      have OLD56 := own_okp OLD0 K56 q_b
      have Z56 := Nat.le_trans Z0 K56.1
      refine ogo st56 ?_
      show OwnEnds _ _ _ _ _ _ _ (T56.setTop (mkF m 103 #[.val (.ref a1), .val (.int (own_sh6 iv)), .val .null, .val (.int i), .val (.int (i <<< ((6 : Int32) &&& 31))), .val (.int (own_min (64 : Int32) ((n + 1) - (i <<< ((6 : Int32) &&& 31)))))] []))
      refine ogo (fun t k => XS.iinc X56.here hx rfl (hb hby d41_103) rfl (l' := #[.val (.ref a1), .val (.int (own_sh6 iv)), .val .null, .val (.int (i + (1 : Int32))), .val (.int (i <<< ((6 : Int32) &&& 31))), .val (.int (own_min (64 : Int32) ((n + 1) - (i <<< ((6 : Int32) &&& 31)))))]) rfl k) ?_
      show OwnEnds _ _ _ _ _ _ _ (T56.setTop (mkF m 106 #[.val (.ref a1), .val (.int (own_sh6 iv)), .val .null, .val (.int (i + (1 : Int32))), .val (.int (i <<< ((6 : Int32) &&& 31))), .val (.int (own_min (64 : Int32) ((n + 1) - (i <<< ((6 : Int32) &&& 31)))))] []))
      refine ogo (fun t k => XS.goto X56.here hx rfl (pc0 := 106) (pc' := 46) rfl (hb hby d41_106) (by decide) (by decide) k) ?_
      exact ih T56 h56 _ (i + 1) (.val (.int (i <<< ((6 : Int32) &&& 31)))) (.val (.int (own_min (64 : Int32) ((n + 1) - (i <<< ((6 : Int32) &&& 31)))))) (Or.inr ⟨_, rfl⟩) (Or.inr ⟨_, rfl⟩) (by rw [hi1]; omega) (by rw [hi1]; omega) X56 e56 N56 OLD56 Z56 f57 f58 f59 f60 f61 (by rw [hi1, show (i.toInt + 1).toNat = i.toInt.toNat + 1 by omega]; exact Vn56) P62
set_option maxRecDepth 65536 in
set_option maxHeartbeats 40000000 in
theorem rm41 (l : Launch) (Z : State) (a0 : Array Value) (hw : ∀ d ∈ tables_1, d.before a0 Z = true) (ws : List Jvm.Cond) (a1 : Addr) (iv n : Int32) (f : Nat → Int32) (pf : Nat → Value) (cT : Addr) (mu : Int32) (kT : ClassId) (h0 : Heap) (n0 : Nat) (Z0 : n0 ≤ h0.size) (OLD : Old Z n0 h0) (g1 : n0 ≤ a1) (E_1 : Exa Z h0 a1 "com/example/dispatchwave/dispatchwave/model/VertexLabels") (F_n : Fld Z h0 a1 "com/example/dispatchwave/dispatchwave/model/VertexLabels" "vertexCount" "I" (.int n)) (F_a : Fld Z h0 a1 "com/example/dispatchwave/dispatchwave/model/VertexLabels" "array" "[I" .null) (gc : n0 ≤ cT) (F_p : Fld Z h0 a1 "com/example/dispatchwave/dispatchwave/model/VertexLabels" "pages" "[[I" (.ref cT)) (F_m : Fld Z h0 a1 "com/example/dispatchwave/dispatchwave/model/VertexLabels" "made" "I" (.int mu)) (hmu : 0 ≤ mu.toInt ∧ mu.toInt ≤ 1) (V_c : Arv Z h0 cT kT (.array .int) (own_L n) (lstV pf (own_L n).toNatClampNeg) .null) (O_c : OvrA Z kT .int "[I") (PPh : PP Z h0 n0 pf (own_L n).toNatClampNeg f) (PIh : PI pf (own_L n).toNatClampNeg) (hn : OkN n) (hp : InN n iv) :
    MetFree l (⟨"com/example/dispatchwave/dispatchwave/model/VertexLabels", "page", "(I)[I"⟩ : MethodName) (head1 (Jvm.Cond.code (⟨"com/example/dispatchwave/dispatchwave/model/VertexLabels", "page", "(I)[I"⟩ : MethodName) prog_32_method_4_code 6 (some (.array .int)) :: ws) ({ frames := 1, cells := 1, slots := 448, locals := 40 } : Room)) (fun a U => a = #[(.ref a1), (.int (own_sh6 iv))] ∧ Z.Warmed39 U.vm ∧ U.heap = h0) (fun _ _ _ _ _ => True) (fun _ U o U' => ∃ v L, o = .returned v ∧ Q41 Z a1 iv n f pf cT mu kT h0 n0 v U'.heap L ∧ FrameEnd U o U' L ({ frames := 1, cells := 1, slots := 448, locals := 40 } : Room).cells ({ frames := 1, cells := 1, slots := 448, locals := 40 } : Room).slots) := by
  refine MetFree.of_bodySF (plainFor_of_name pn_VertexLabels) hisR ?_
  intro p e s m args below meth c s₁ Bd hml0 hP hK
  obtain ⟨rfl, hZ, hh⟩ := hP
  have hx := Bd.exec
  have hby := Bd.bytes
  have hml : c.maxLocals = 6 := hml0
  have hown : s.vm.findClass "com/example/dispatchwave/dispatchwave/model/VertexLabels" = some m.cls := findClass_of_methodNamed Bd.named
  have hnm := (name_of_methodNamed Bd.named Bd.method).1
  have hlk : meth.locks = false := BodyLoose.notSynchronized Bd
  have hret := Bd.returns
  have X0 : Stand p l e ({ frames := 1, cells := 1, slots := 448, locals := 40 } : Room) s m #[(.ref a1), (.int (own_sh6 iv))] below meth c s₁ [] 0 0 := Stand.of_body Bd
  have e0 : s₁.heap = h0 := by rw [← hh, Bd.state]; rfl
  have N0 := Fr.nil n0
  refine ogo (U' := s₁.setTop (mkF m 0 #[.val (.ref a1), .val (.int (own_sh6 iv)), .unset, .unset, .unset, .unset] [])) (Q := Q41 Z a1 iv n f pf cT mu kT h0 n0) (K := ({ frames := 1, cells := 1, slots := 448, locals := 40 } : Room).cells) (N := ({ frames := 1, cells := 1, slots := 448, locals := 40 } : Room).slots) (fun t k => castTop (ef_41 m a1 (own_sh6 iv)) k) ?_
  show OwnEnds _ _ _ _ _ _ _ (s₁.setTop (mkF m 0 #[.val (.ref a1), .val (.int (own_sh6 iv)), .unset, .unset, .unset, .unset] []))
  refine ogo (fun t k => XS.aloadN X0.here hx rfl (hb hby d41_0) rfl rfl k) ?_
  show OwnEnds _ _ _ _ _ _ _ (s₁.setTop (mkF m 1 #[.val (.ref a1), .val (.int (own_sh6 iv)), .unset, .unset, .unset, .unset] [(.ref a1)]))
  obtain ⟨T1, X1, e1, st1⟩ := getF X0 hx hZ hown (host := "") (Or.inl (hw _ (List.mem_of_getElem? (i := 18) rfl))) Via.refl e0 F_p (g := (mkF m 1 #[.val (.ref a1), .val (.int (own_sh6 iv)), .unset, .unset, .unset, .unset] [(.ref a1)])) rfl rfl (hb hby d41_1)
  refine ogo st1 ?_
  show OwnEnds _ _ _ _ _ _ _ (T1.setTop (mkF m 4 #[.val (.ref a1), .val (.int (own_sh6 iv)), .unset, .unset, .unset, .unset] [(.ref cT)]))
  refine ogo (fun t k => XS.iloadN X1.here hx rfl (hb hby d41_4) rfl k) ?_
  show OwnEnds _ _ _ _ _ _ _ (T1.setTop (mkF m 5 #[.val (.ref a1), .val (.int (own_sh6 iv)), .unset, .unset, .unset, .unset] [(.int (own_sh6 iv)), (.ref cT)]))
  obtain ⟨cl2, Ar2, Aq2, As2, An2, Ah2, Ag2⟩ := id V_c
  rcases PPh _ (own_pi hn hp).2.2 with ⟨e0t, z0t⟩ | ⟨p, e0t, g0t, V0t⟩
  · refine ogo (fun t k => X1.aaload hx (j := (own_sh6 iv)) (v := .null) (by rw [e1]; exact Ar2.1) (State.isArrayOf_alike hZ.alike Ar2.2.1) rfl Ar2.2.2 (inb_of As2 (own_pi hn hp).1) (Ah2.at (inb_of As2 (own_pi hn hp).1) ((congrArg (fun t => (lstV pf (own_L n).toNatClampNeg).getD t .null) (own_pi hn hp).2.1).trans ((lstV_at (own_pi hn hp).2.2).trans e0t))) (g := (mkF m 5 #[.val (.ref a1), .val (.int (own_sh6 iv)), .unset, .unset, .unset, .unset] [(.int (own_sh6 iv)), (.ref cT)])) rfl rfl (hb hby d41_5) t k) ?_
    show OwnEnds _ _ _ _ _ _ _ (T1.setTop (mkF m 6 #[.val (.ref a1), .val (.int (own_sh6 iv)), .unset, .unset, .unset, .unset] [.null]))
    refine ogo (fun t k => XS.astoreN X1.here hx rfl (hb hby d41_6) rfl rfl (l' := #[.val (.ref a1), .val (.int (own_sh6 iv)), .val .null, .unset, .unset, .unset]) rfl k) ?_
    show OwnEnds _ _ _ _ _ _ _ (T1.setTop (mkF m 7 #[.val (.ref a1), .val (.int (own_sh6 iv)), .val .null, .unset, .unset, .unset] []))
    refine ogo (fun t k => XS.aloadN X1.here hx rfl (hb hby d41_7) rfl rfl k) ?_
    show OwnEnds _ _ _ _ _ _ _ (T1.setTop (mkF m 8 #[.val (.ref a1), .val (.int (own_sh6 iv)), .val .null, .unset, .unset, .unset] [.null]))
    refine ogo (fun t k => XS.ifnonnullNo X1.here hx rfl (hb hby d41_8) rfl k) ?_
    show OwnEnds _ _ _ _ _ _ _ (T1.setTop (mkF m 11 #[.val (.ref a1), .val (.int (own_sh6 iv)), .val .null, .unset, .unset, .unset] []))
    refine ogo (fun t k => X1.ldc2Long hx hown (mvT hZ (hw _ (List.mem_of_getElem? (i := 36) rfl))) (g := (mkF m 11 #[.val (.ref a1), .val (.int (own_sh6 iv)), .val .null, .unset, .unset, .unset] [])) rfl (hb hby d41_11) t k) ?_
    show OwnEnds _ _ _ _ _ _ _ (T1.setTop (mkF m 14 #[.val (.ref a1), .val (.int (own_sh6 iv)), .val .null, .unset, .unset, .unset] [(.long (4 : Int64))]))
    refine ogo (fun t k => XS.aloadN X1.here hx rfl (hb hby d41_14) rfl rfl k) ?_
    show OwnEnds _ _ _ _ _ _ _ (T1.setTop (mkF m 15 #[.val (.ref a1), .val (.int (own_sh6 iv)), .val .null, .unset, .unset, .unset] [(.ref a1), (.long (4 : Int64))]))
    obtain ⟨T4, X4, e4, st4⟩ := getF X1 hx hZ hown (host := "") (Or.inl (hw _ (List.mem_of_getElem? (i := 37) rfl))) Via.refl e1 F_m (g := (mkF m 15 #[.val (.ref a1), .val (.int (own_sh6 iv)), .val .null, .unset, .unset, .unset] [(.ref a1), (.long (4 : Int64))])) rfl rfl (hb hby d41_15)
    refine ogo st4 ?_
    show OwnEnds _ _ _ _ _ _ _ (T4.setTop (mkF m 18 #[.val (.ref a1), .val (.int (own_sh6 iv)), .val .null, .unset, .unset, .unset] [(.int mu), (.long (4 : Int64))]))
    refine ogo (fun t k => XS.iconst X4.here hx rfl (hb hby d41_18) k) ?_
    show OwnEnds _ _ _ _ _ _ _ (T4.setTop (mkF m 19 #[.val (.ref a1), .val (.int (own_sh6 iv)), .val .null, .unset, .unset, .unset] [(.int (1 : Int32)), (.int mu), (.long (4 : Int64))]))
    refine ogo (fun t k => XS.iadd X4.here hx rfl (hb hby d41_19) rfl k) ?_
    show OwnEnds _ _ _ _ _ _ _ (T4.setTop (mkF m 20 #[.val (.ref a1), .val (.int (own_sh6 iv)), .val .null, .unset, .unset, .unset] [(.int (mu + (1 : Int32))), (.long (4 : Int64))]))
    refine ogo (fun t k => XS.i2l X4.here hx rfl (hb hby d41_20) rfl k) ?_
    show OwnEnds _ _ _ _ _ _ _ (T4.setTop (mkF m 21 #[.val (.ref a1), .val (.int (own_sh6 iv)), .val .null, .unset, .unset, .unset] [(.long ((mu + (1 : Int32)).toInt64)), (.long (4 : Int64))]))
    refine ogo (fun t k => XS.lmul X4.here hx rfl (hb hby d41_21) rfl k) ?_
    show OwnEnds _ _ _ _ _ _ _ (T4.setTop (mkF m 22 #[.val (.ref a1), .val (.int (own_sh6 iv)), .val .null, .unset, .unset, .unset] [(.long ((4 : Int64) * ((mu + (1 : Int32)).toInt64)))]))
    refine ogo (fun t k => XS.aloadN X4.here hx rfl (hb hby d41_22) rfl rfl k) ?_
    show OwnEnds _ _ _ _ _ _ _ (T4.setTop (mkF m 23 #[.val (.ref a1), .val (.int (own_sh6 iv)), .val .null, .unset, .unset, .unset] [(.ref a1), (.long ((4 : Int64) * ((mu + (1 : Int32)).toInt64)))]))
    obtain ⟨T5, X5, e5, st5⟩ := getF X4 hx hZ hown (host := "") (Or.inl (hw _ (List.mem_of_getElem? (i := 18) rfl))) Via.refl e4 F_p (g := (mkF m 23 #[.val (.ref a1), .val (.int (own_sh6 iv)), .val .null, .unset, .unset, .unset] [(.ref a1), (.long ((4 : Int64) * ((mu + (1 : Int32)).toInt64)))])) rfl rfl (hb hby d41_23)
    refine ogo st5 ?_
    show OwnEnds _ _ _ _ _ _ _ (T5.setTop (mkF m 26 #[.val (.ref a1), .val (.int (own_sh6 iv)), .val .null, .unset, .unset, .unset] [(.ref cT), (.long ((4 : Int64) * ((mu + (1 : Int32)).toInt64)))]))
    obtain ⟨cl6, Ar6, Aq6, As6, An6, Ah6, Ag6⟩ := id V_c
    refine ogo (fun t k => X5.arraylength hx (by rw [e5]; exact Ar6.1) (State.isArrayOf_alike hZ.alike Ar6.2.1) (g := (mkF m 26 #[.val (.ref a1), .val (.int (own_sh6 iv)), .val .null, .unset, .unset, .unset] [(.ref cT), (.long ((4 : Int64) * ((mu + (1 : Int32)).toInt64)))])) rfl rfl (hb hby d41_26) t k) ?_
    rw [len_of As6 An6]
    show OwnEnds _ _ _ _ _ _ _ (T5.setTop (mkF m 27 #[.val (.ref a1), .val (.int (own_sh6 iv)), .val .null, .unset, .unset, .unset] [(.int (own_L n)), (.long ((4 : Int64) * ((mu + (1 : Int32)).toInt64)))]))
    refine ogo (fun t k => XS.i2l X5.here hx rfl (hb hby d41_27) rfl k) ?_
    show OwnEnds _ _ _ _ _ _ _ (T5.setTop (mkF m 28 #[.val (.ref a1), .val (.int (own_sh6 iv)), .val .null, .unset, .unset, .unset] [(.long ((own_L n).toInt64)), (.long ((4 : Int64) * ((mu + (1 : Int32)).toInt64)))]))
    refine ogo (fun t k => XS.lcmp X5.here hx rfl (hb hby d41_28) rfl k) ?_
    show OwnEnds _ _ _ _ _ _ _ (T5.setTop (mkF m 29 #[.val (.ref a1), .val (.int (own_sh6 iv)), .val .null, .unset, .unset, .unset] [(.int (lcmpW ((4 : Int64) * ((mu + (1 : Int32)).toInt64)) ((own_L n).toInt64)))]))
    by_cases hc7 : ((own_L n).toInt64) < ((4 : Int64) * ((mu + (1 : Int32)).toInt64))
    · refine ogo (fun t k => XS.ifNo X5.here hx rfl (hb hby d41_29) rfl ((if0 _ _).trans (tlt ((lw_gt ((4 : Int64) * ((mu + (1 : Int32)).toInt64)) ((own_L n).toInt64)).mpr hc7)).2.2.2) k) ?_
      show OwnEnds _ _ _ _ _ _ _ (T5.setTop (mkF m 32 #[.val (.ref a1), .val (.int (own_sh6 iv)), .val .null, .unset, .unset, .unset] []))
      refine ogo (fun t k => XS.aloadN X5.here hx rfl (hb hby d41_32) rfl rfl k) ?_
      show OwnEnds _ _ _ _ _ _ _ (T5.setTop (mkF m 33 #[.val (.ref a1), .val (.int (own_sh6 iv)), .val .null, .unset, .unset, .unset] [(.ref a1)]))
      refine ogo (fun t k => XS.aloadN X5.here hx rfl (hb hby d41_33) rfl rfl k) ?_
      show OwnEnds _ _ _ _ _ _ _ (T5.setTop (mkF m 34 #[.val (.ref a1), .val (.int (own_sh6 iv)), .val .null, .unset, .unset, .unset] [(.ref a1), (.ref a1)]))
      obtain ⟨T8, X8, e8, st8⟩ := getF X5 hx hZ hown (host := "") (Or.inl (hw _ (List.mem_of_getElem? (i := 14) rfl))) Via.refl e5 F_n (g := (mkF m 34 #[.val (.ref a1), .val (.int (own_sh6 iv)), .val .null, .unset, .unset, .unset] [(.ref a1), (.ref a1)])) rfl rfl (hb hby d41_34)
      refine ogo st8 ?_
      show OwnEnds _ _ _ _ _ _ _ (T8.setTop (mkF m 37 #[.val (.ref a1), .val (.int (own_sh6 iv)), .val .null, .unset, .unset, .unset] [(.int n), (.ref a1)]))
      refine ogo (fun t k => XS.iconst X8.here hx rfl (hb hby d41_37) k) ?_
      show OwnEnds _ _ _ _ _ _ _ (T8.setTop (mkF m 38 #[.val (.ref a1), .val (.int (own_sh6 iv)), .val .null, .unset, .unset, .unset] [(.int (1 : Int32)), (.int n), (.ref a1)]))
      refine ogo (fun t k => XS.iadd X8.here hx rfl (hb hby d41_38) rfl k) ?_
      show OwnEnds _ _ _ _ _ _ _ (T8.setTop (mkF m 39 #[.val (.ref a1), .val (.int (own_sh6 iv)), .val .null, .unset, .unset, .unset] [(.int (n + (1 : Int32))), (.ref a1)]))
      obtain ⟨T9, h9, k9, X9, e9, E9, A9, B9, st9⟩ := newPE X8 hx hZ (hw _ (List.mem_of_getElem? (i := 39) rfl)) e8 (g := (mkF m 39 #[.val (.ref a1), .val (.int (own_sh6 iv)), .val .null, .unset, .unset, .unset] [(.int (n + (1 : Int32))), (.ref a1)])) rfl (hb hby d41_39) (n := (n + 1)) rfl (own_n1nn hn) (cap := 448) (own_cap (M := 1) (by decide) hn hmu hc7) (by decide) (by decide) (by decide) (ad := "[I") (by decide)
      obtain ⟨b9, g9⟩ : ∃ z, z = h0.size := ⟨_, rfl⟩
      rw [← g9] at A9 B9 st9
      have ne_a1_b9 : a1 ≠ b9 := Nat.ne_of_lt (Nat.lt_of_lt_of_le (E_1).lt (Nat.le_of_eq g9.symm))
      have ne_cT_b9 : cT ≠ b9 := Nat.ne_of_lt (Nat.lt_of_lt_of_le (V_c).lt (Nat.le_of_eq g9.symm))
      have pn_b9 := PPh.ne_new g9
      have q_b9 : n0 ≤ b9 := Nat.le_trans Z0 (Nat.le_of_eq g9.symm)
      have f10 := E_1.ext E9
      have f11 := F_n.ext E9
      have f12 := F_a.ext E9
      have f13 := F_p.ext E9
      have f14 := F_m.ext E9
      have f15 := V_c.ext E9
      have P16 := PPh.ext E9
      have OLD17 := OLD.ext E9
      have Z17 := Nat.le_trans Z0 E9.1
      have V9 : Arv Z h9 b9 k9 .int (n + 1) (lst (fun _ => 0) ((n + 1)).toNatClampNeg) (.int (0 : Int32)) := by
        have q := (Arv.new A9 (own_n1nn hn)).pad (pad_rep [] (.int (0 : Int32)) ((n + 1)).toNatClampNeg)
        rw [List.nil_append, lst_rep] at q
        exact q
      refine ogo st9 ?_
      show OwnEnds _ _ _ _ _ _ _ (T9.setTop (mkF m 41 #[.val (.ref a1), .val (.int (own_sh6 iv)), .val .null, .unset, .unset, .unset] [(.ref b9), (.ref a1)]))
      obtain ⟨T18, h18, X18, e18, W18, st18⟩ := putF X9 hx hZ hown (host := "") (Or.inl (hw _ (List.mem_of_getElem? (i := 25) rfl))) Via.refl e9 f12 f10 (Or.inl (hw _ (List.mem_of_getElem? (i := 26) rfl))) (hw _ (List.mem_of_getElem? (i := 6) rfl)) (ty := (.array .int)) (by decide) rfl rfl (g := (mkF m 41 #[.val (.ref a1), .val (.int (own_sh6 iv)), .val .null, .unset, .unset, .unset] [(.ref b9), (.ref a1)])) rfl rfl (hb hby d41_41)
      have nx19 : cT ≠ a1 := (Av.neObj ⟨_, f15⟩ f10 (hw _ (List.mem_of_getElem? (i := 6) rfl)))
      have nx20 : b9 ≠ a1 := (Ne.symm ne_a1_b9)
      have f21 := f10.wr W18
      have f22 := f11.other W18 (Or.inr (slot_ne (Or.inr (hw _ (List.mem_of_getElem? (i := 15) rfl))) (Or.inl (hw _ (List.mem_of_getElem? (i := 26) rfl))) (by decide) (t := .int) (t' := (.array .int)) (by decide) (by decide)))
      have f23 := f12.same W18
      have f24 := f13.other W18 (Or.inr (slot_ne (Or.inl (hw _ (List.mem_of_getElem? (i := 19) rfl))) (Or.inl (hw _ (List.mem_of_getElem? (i := 26) rfl))) (by decide) (t := (.array (.array .int))) (t' := (.array .int)) (by decide) (by decide)))
      have f25 := f14.other W18 (Or.inr (slot_ne (Or.inl (hw _ (List.mem_of_getElem? (i := 38) rfl))) (Or.inl (hw _ (List.mem_of_getElem? (i := 26) rfl))) (by decide) (t := .int) (t' := (.array .int)) (by decide) (by decide)))
      have f26 := f15.other W18 nx19
      have f27 := V9.other W18 nx20
      have f28 := B9.wr W18
      have P29 := P16.other W18 (P16.neObj f10 (hw _ (List.mem_of_getElem? (i := 6) rfl)))
      have N30 := Fr.snoc X18 N0 g1
      have OLD30 := OLD17.wr W18 g1
      have Z30 := Nat.le_trans Z17 (Nat.le_of_eq W18.size.symm)
      refine ogo st18 ?_
      show OwnEnds _ _ _ _ _ _ _ (T18.setTop (mkF m 44 #[.val (.ref a1), .val (.int (own_sh6 iv)), .val .null, .unset, .unset, .unset] []))
      refine ogo (fun t k => XS.iconst X18.here hx rfl (hb hby d41_44) k) ?_
      show OwnEnds _ _ _ _ _ _ _ (T18.setTop (mkF m 45 #[.val (.ref a1), .val (.int (own_sh6 iv)), .val .null, .unset, .unset, .unset] [(.int (0 : Int32))]))
      refine ogo (fun t k => XS.istoreN X18.here hx rfl (hb hby d41_45) rfl (l' := #[.val (.ref a1), .val (.int (own_sh6 iv)), .val .null, .val (.int (0 : Int32)), .unset, .unset]) rfl k) ?_
      exact lp41 Z a0 hw a1 iv n f pf cT mu kT h0 n0 g1 gc hn b9 k9 q_b9 pn_b9 ne_a1_b9 ne_cT_b9 hx hZ hby hml hown hnm hlk hret (own_L n).toInt.toNat T18 h18 _ (0 : Int32) .unset .unset (Or.inl rfl) (Or.inl rfl) (by decide) (by have y := own_L_i hn; have y2 := hn.1; have y3 : (0 : Int32).toInt = 0 := rfl; omega) X18 e18 N30 OLD30 Z30 f21 f22 f23 f24 f26 (by rw [show (0 : Int32).toInt.toNat = 0 from rfl, part_zero]; exact f27) P29
    · refine ogo (fun t k => XS.ifYes X5.here hx rfl (pc0 := 29) (pc' := 117) rfl (hb hby d41_29) rfl ((if0 _ _).trans (flt (fun q => hc7 ((lw_gt ((4 : Int64) * ((mu + (1 : Int32)).toInt64)) ((own_L n).toInt64)).mp q))).2.2.2) (by decide) (by decide) k) ?_
      show OwnEnds _ _ _ _ _ _ _ (T5.setTop (mkF m 117 #[.val (.ref a1), .val (.int (own_sh6 iv)), .val .null, .unset, .unset, .unset] []))
      refine ogo (fun t k => XS.aloadN X5.here hx rfl (hb hby d41_117) rfl rfl k) ?_
      show OwnEnds _ _ _ _ _ _ _ (T5.setTop (mkF m 118 #[.val (.ref a1), .val (.int (own_sh6 iv)), .val .null, .unset, .unset, .unset] [.null]))
      refine ogo (fun t k => XS.ifnonnullNo X5.here hx rfl (hb hby d41_118) rfl k) ?_
      show OwnEnds _ _ _ _ _ _ _ (T5.setTop (mkF m 121 #[.val (.ref a1), .val (.int (own_sh6 iv)), .val .null, .unset, .unset, .unset] []))
      refine ogo (fun t k => XS.bipush X5.here hx rfl (hb hby d41_121) k) ?_
      show OwnEnds _ _ _ _ _ _ _ (T5.setTop (mkF m 123 #[.val (.ref a1), .val (.int (own_sh6 iv)), .val .null, .unset, .unset, .unset] [(.int (64 : Int32))]))
      obtain ⟨T63, h63, k63, X63, e63, E63, A63, B63, st63⟩ := newPE X5 hx hZ (hw _ (List.mem_of_getElem? (i := 39) rfl)) e5 (g := (mkF m 123 #[.val (.ref a1), .val (.int (own_sh6 iv)), .val .null, .unset, .unset, .unset] [(.int (64 : Int32))])) rfl (hb hby d41_123) (n := (64 : Int32)) rfl (by decide) (cap := 64) (by decide) (by decide) (by decide) (by decide) (ad := "[I") (by decide)
      obtain ⟨b63, g63⟩ : ∃ z, z = h0.size := ⟨_, rfl⟩
      rw [← g63] at A63 B63 st63
      have ne_a1_b63 : a1 ≠ b63 := Nat.ne_of_lt (Nat.lt_of_lt_of_le (E_1).lt (Nat.le_of_eq g63.symm))
      have ne_cT_b63 : cT ≠ b63 := Nat.ne_of_lt (Nat.lt_of_lt_of_le (V_c).lt (Nat.le_of_eq g63.symm))
      have pn_b63 := PPh.ne_new g63
      have q_b63 : n0 ≤ b63 := Nat.le_trans Z0 (Nat.le_of_eq g63.symm)
      have f64 := E_1.ext E63
      have f65 := F_n.ext E63
      have f66 := F_a.ext E63
      have f67 := F_p.ext E63
      have f68 := F_m.ext E63
      have f69 := V_c.ext E63
      have P70 := PPh.ext E63
      have OLD71 := OLD.ext E63
      have Z71 := Nat.le_trans Z0 E63.1
      have V63 : Arv Z h63 b63 k63 .int (64 : Int32) (lst (fun _ => 0) ((64 : Int32)).toNatClampNeg) (.int (0 : Int32)) := by
        have q := (Arv.new A63 (by decide)).pad (pad_rep [] (.int (0 : Int32)) ((64 : Int32)).toNatClampNeg)
        rw [List.nil_append, lst_rep] at q
        exact q
      refine ogo st63 ?_
      show OwnEnds _ _ _ _ _ _ _ (T63.setTop (mkF m 125 #[.val (.ref a1), .val (.int (own_sh6 iv)), .val .null, .unset, .unset, .unset] [(.ref b63)]))
      refine ogo (fun t k => XS.astoreN X63.here hx rfl (hb hby d41_125) rfl rfl (l' := #[.val (.ref a1), .val (.int (own_sh6 iv)), .val (.ref b63), .unset, .unset, .unset]) rfl k) ?_
      show OwnEnds _ _ _ _ _ _ _ (T63.setTop (mkF m 126 #[.val (.ref a1), .val (.int (own_sh6 iv)), .val (.ref b63), .unset, .unset, .unset] []))
      refine ogo (fun t k => XS.aloadN X63.here hx rfl (hb hby d41_126) rfl rfl k) ?_
      show OwnEnds _ _ _ _ _ _ _ (T63.setTop (mkF m 127 #[.val (.ref a1), .val (.int (own_sh6 iv)), .val (.ref b63), .unset, .unset, .unset] [(.ref a1)]))
      obtain ⟨T72, X72, e72, st72⟩ := getF X63 hx hZ hown (host := "") (Or.inl (hw _ (List.mem_of_getElem? (i := 18) rfl))) Via.refl e63 f67 (g := (mkF m 127 #[.val (.ref a1), .val (.int (own_sh6 iv)), .val (.ref b63), .unset, .unset, .unset] [(.ref a1)])) rfl rfl (hb hby d41_127)
      refine ogo st72 ?_
      show OwnEnds _ _ _ _ _ _ _ (T72.setTop (mkF m 130 #[.val (.ref a1), .val (.int (own_sh6 iv)), .val (.ref b63), .unset, .unset, .unset] [(.ref cT)]))
      refine ogo (fun t k => XS.iloadN X72.here hx rfl (hb hby d41_130) rfl k) ?_
      show OwnEnds _ _ _ _ _ _ _ (T72.setTop (mkF m 131 #[.val (.ref a1), .val (.int (own_sh6 iv)), .val (.ref b63), .unset, .unset, .unset] [(.int (own_sh6 iv)), (.ref cT)]))
      refine ogo (fun t k => XS.aloadN X72.here hx rfl (hb hby d41_131) rfl rfl k) ?_
      show OwnEnds _ _ _ _ _ _ _ (T72.setTop (mkF m 132 #[.val (.ref a1), .val (.int (own_sh6 iv)), .val (.ref b63), .unset, .unset, .unset] [(.ref b63), (.int (own_sh6 iv)), (.ref cT)]))
      obtain ⟨cl73, Ar73, Aq73, As73, An73, Ah73, Ag73⟩ := id f69
      obtain ⟨T73, h73, X73, e73, W73, st73⟩ := stR X72 hx hZ e72 Ar73 (j := own_sh6 iv) (inb_of As73 (own_pi hn hp).1) rfl (Sto.ofVA Ar73 Aq73 O_c (Ins.self B63)) (g := (mkF m 132 #[.val (.ref a1), .val (.int (own_sh6 iv)), .val (.ref b63), .unset, .unset, .unset] [(.ref b63), (.int (own_sh6 iv)), (.ref cT)])) rfl rfl (hb hby d41_132)
      have V73 : Arv Z h73 cT kT (.array .int) (own_L n) (lstV (fupdV pf (iv.toInt.toNat / 64) (.ref b63)) (own_L n).toNatClampNeg) .null := by
        have q := Arv.set Ar73 Aq73 As73 An73 Ah73 Ag73 rfl W73 (iv.toInt.toNat / 64) (own_pi hn hp).2.1 (by rw [lstV_len]; exact (own_pi hn hp).2.2)
        rw [lstV_set] at q
        exact q
      have P74 := P70.make (own_pi hn hp).2.2 e0t q_b63 ⟨_, V63⟩
      have PIn := PIh.make (i := (iv.toInt.toNat / 64)) pn_b63
      have nx75 : a1 ≠ cT := (Ne.symm (Av.neObj ⟨_, f69⟩ f64 (hw _ (List.mem_of_getElem? (i := 6) rfl))))
      have nx76 : b63 ≠ cT := (Ne.symm ne_cT_b63)
      have f77 := f64.wr W73
      have f78 := f65.other W73 (Or.inl nx75)
      have f79 := f66.other W73 (Or.inl nx75)
      have f80 := f67.other W73 (Or.inl nx75)
      have f81 := f68.other W73 (Or.inl nx75)
      have f82 := V63.other W73 nx76
      have f83 := B63.wr W73
      have P84 := P74.other W73 (P74.neTab f69)
      have N85 := Fr.snoc X73 N0 gc
      have OLD85 := OLD71.wr W73 gc
      have Z85 := Nat.le_trans Z71 (Nat.le_of_eq W73.size.symm)
      refine ogo st73 ?_
      show OwnEnds _ _ _ _ _ _ _ (T73.setTop (mkF m 133 #[.val (.ref a1), .val (.int (own_sh6 iv)), .val (.ref b63), .unset, .unset, .unset] []))
      refine ogo (fun t k => XS.aloadN X73.here hx rfl (hb hby d41_133) rfl rfl k) ?_
      show OwnEnds _ _ _ _ _ _ _ (T73.setTop (mkF m 134 #[.val (.ref a1), .val (.int (own_sh6 iv)), .val (.ref b63), .unset, .unset, .unset] [(.ref a1)]))
      refine ogo (fun t k => XS.dup X73.here hx rfl (hb hby d41_134) rfl rfl k) ?_
      show OwnEnds _ _ _ _ _ _ _ (T73.setTop (mkF m 135 #[.val (.ref a1), .val (.int (own_sh6 iv)), .val (.ref b63), .unset, .unset, .unset] [(.ref a1), (.ref a1)]))
      obtain ⟨T86, X86, e86, st86⟩ := getF X73 hx hZ hown (host := "") (Or.inl (hw _ (List.mem_of_getElem? (i := 37) rfl))) Via.refl e73 f81 (g := (mkF m 135 #[.val (.ref a1), .val (.int (own_sh6 iv)), .val (.ref b63), .unset, .unset, .unset] [(.ref a1), (.ref a1)])) rfl rfl (hb hby d41_135)
      refine ogo st86 ?_
      show OwnEnds _ _ _ _ _ _ _ (T86.setTop (mkF m 138 #[.val (.ref a1), .val (.int (own_sh6 iv)), .val (.ref b63), .unset, .unset, .unset] [(.int mu), (.ref a1)]))
      refine ogo (fun t k => XS.iconst X86.here hx rfl (hb hby d41_138) k) ?_
      show OwnEnds _ _ _ _ _ _ _ (T86.setTop (mkF m 139 #[.val (.ref a1), .val (.int (own_sh6 iv)), .val (.ref b63), .unset, .unset, .unset] [(.int (1 : Int32)), (.int mu), (.ref a1)]))
      refine ogo (fun t k => XS.iadd X86.here hx rfl (hb hby d41_139) rfl k) ?_
      show OwnEnds _ _ _ _ _ _ _ (T86.setTop (mkF m 140 #[.val (.ref a1), .val (.int (own_sh6 iv)), .val (.ref b63), .unset, .unset, .unset] [(.int (mu + (1 : Int32))), (.ref a1)]))
      obtain ⟨T87, h87, X87, e87, W87, st87⟩ := putF X86 hx hZ hown (host := "") (Or.inl (hw _ (List.mem_of_getElem? (i := 37) rfl))) Via.refl e86 f81 f77 (Or.inl (hw _ (List.mem_of_getElem? (i := 38) rfl))) (hw _ (List.mem_of_getElem? (i := 6) rfl)) (ty := .int) (by decide) rfl rfl (g := (mkF m 140 #[.val (.ref a1), .val (.int (own_sh6 iv)), .val (.ref b63), .unset, .unset, .unset] [(.int (mu + (1 : Int32))), (.ref a1)])) rfl rfl (hb hby d41_140)
      have nx88 : cT ≠ a1 := (Ne.symm nx75)
      have nx89 : b63 ≠ a1 := (Ne.symm ne_a1_b63)
      have f90 := f77.wr W87
      have f91 := f78.other W87 (Or.inr (slot_ne (Or.inr (hw _ (List.mem_of_getElem? (i := 15) rfl))) (Or.inl (hw _ (List.mem_of_getElem? (i := 38) rfl))) (by decide) (t := .int) (t' := .int) (by decide) (by decide)))
      have f92 := f79.other W87 (Or.inr (slot_ne (Or.inl (hw _ (List.mem_of_getElem? (i := 26) rfl))) (Or.inl (hw _ (List.mem_of_getElem? (i := 38) rfl))) (by decide) (t := (.array .int)) (t' := .int) (by decide) (by decide)))
      have f93 := f80.other W87 (Or.inr (slot_ne (Or.inl (hw _ (List.mem_of_getElem? (i := 19) rfl))) (Or.inl (hw _ (List.mem_of_getElem? (i := 38) rfl))) (by decide) (t := (.array (.array .int))) (t' := .int) (by decide) (by decide)))
      have f94 := f81.same W87
      have f95 := V73.other W87 nx88
      have f96 := f82.other W87 nx89
      have f97 := f83.wr W87
      have P98 := P84.other W87 (P84.neObj f77 (hw _ (List.mem_of_getElem? (i := 6) rfl)))
      have N99 := Fr.snoc X87 N85 g1
      have OLD99 := OLD85.wr W87 g1
      have Z99 := Nat.le_trans Z85 (Nat.le_of_eq W87.size.symm)
      refine ogo st87 ?_
      show OwnEnds _ _ _ _ _ _ _ (T87.setTop (mkF m 143 #[.val (.ref a1), .val (.int (own_sh6 iv)), .val (.ref b63), .unset, .unset, .unset] []))
      refine ogo (fun t k => XS.aloadN X87.here hx rfl (hb hby d41_143) rfl rfl k) ?_
      show OwnEnds _ _ _ _ _ _ _ (T87.setTop (mkF m 144 #[.val (.ref a1), .val (.int (own_sh6 iv)), .val (.ref b63), .unset, .unset, .unset] [(.ref b63)]))
      refine endA X87 hx hlk hret rfl rfl (hb hby d41_144) (by decide) (by decide) ?_
      show Q41 Z a1 iv n f pf cT mu kT h0 n0 _ T87.heap _
      rw [e87]
      exact ⟨N99, OLD99, Z99, Or.inl ⟨b63, (fupdV pf (iv.toInt.toNat / 64) (.ref b63)), mu + 1, rfl, by simp [fupdV], ⟨g1, f90, f91⟩, f92, gc, f93, f94, own_mu1 (by decide) hmu, f95, O_c, P98, PIn⟩⟩
  · refine ogo (fun t k => X1.aaload hx (j := (own_sh6 iv)) (v := (.ref p)) (by rw [e1]; exact Ar2.1) (State.isArrayOf_alike hZ.alike Ar2.2.1) rfl Ar2.2.2 (inb_of As2 (own_pi hn hp).1) (Ah2.at (inb_of As2 (own_pi hn hp).1) ((congrArg (fun t => (lstV pf (own_L n).toNatClampNeg).getD t .null) (own_pi hn hp).2.1).trans ((lstV_at (own_pi hn hp).2.2).trans e0t))) (g := (mkF m 5 #[.val (.ref a1), .val (.int (own_sh6 iv)), .unset, .unset, .unset, .unset] [(.int (own_sh6 iv)), (.ref cT)])) rfl rfl (hb hby d41_5) t k) ?_
    show OwnEnds _ _ _ _ _ _ _ (T1.setTop (mkF m 6 #[.val (.ref a1), .val (.int (own_sh6 iv)), .unset, .unset, .unset, .unset] [(.ref p)]))
    refine ogo (fun t k => XS.astoreN X1.here hx rfl (hb hby d41_6) rfl rfl (l' := #[.val (.ref a1), .val (.int (own_sh6 iv)), .val (.ref p), .unset, .unset, .unset]) rfl k) ?_
    show OwnEnds _ _ _ _ _ _ _ (T1.setTop (mkF m 7 #[.val (.ref a1), .val (.int (own_sh6 iv)), .val (.ref p), .unset, .unset, .unset] []))
    refine ogo (fun t k => XS.aloadN X1.here hx rfl (hb hby d41_7) rfl rfl k) ?_
    show OwnEnds _ _ _ _ _ _ _ (T1.setTop (mkF m 8 #[.val (.ref a1), .val (.int (own_sh6 iv)), .val (.ref p), .unset, .unset, .unset] [(.ref p)]))
    refine ogo (fun t k => XS.ifnonnullYes X1.here hx rfl (pc0 := 8) (pc' := 117) rfl (hb hby d41_8) rfl (by decide) (by decide) k) ?_
    show OwnEnds _ _ _ _ _ _ _ (T1.setTop (mkF m 117 #[.val (.ref a1), .val (.int (own_sh6 iv)), .val (.ref p), .unset, .unset, .unset] []))
    refine ogo (fun t k => XS.aloadN X1.here hx rfl (hb hby d41_117) rfl rfl k) ?_
    show OwnEnds _ _ _ _ _ _ _ (T1.setTop (mkF m 118 #[.val (.ref a1), .val (.int (own_sh6 iv)), .val (.ref p), .unset, .unset, .unset] [(.ref p)]))
    refine ogo (fun t k => XS.ifnonnullYes X1.here hx rfl (pc0 := 118) (pc' := 143) rfl (hb hby d41_118) rfl (by decide) (by decide) k) ?_
    show OwnEnds _ _ _ _ _ _ _ (T1.setTop (mkF m 143 #[.val (.ref a1), .val (.int (own_sh6 iv)), .val (.ref p), .unset, .unset, .unset] []))
    refine ogo (fun t k => XS.aloadN X1.here hx rfl (hb hby d41_143) rfl rfl k) ?_
    show OwnEnds _ _ _ _ _ _ _ (T1.setTop (mkF m 144 #[.val (.ref a1), .val (.int (own_sh6 iv)), .val (.ref p), .unset, .unset, .unset] [(.ref p)]))
    refine endA X1 hx hlk hret rfl rfl (hb hby d41_144) (by decide) (by decide) ?_
    show Q41 Z a1 iv n f pf cT mu kT h0 n0 _ T1.heap _
    rw [e1]
    exact ⟨N0, OLD, Z0, Or.inl ⟨p, pf, mu, rfl, e0t, ⟨g1, E_1, F_n⟩, F_a, gc, F_p, F_m, ⟨hmu.1, by have := hmu.2; omega⟩, V_c, O_c, PPh, PIh⟩⟩
theorem d51_0 : decode prog_32_method_3_code 0 = .ok (.aload_n 0, 1) := by decide +kernel
theorem d51_1 : decode prog_32_method_3_code 1 = .ok (.getfield 19, 3) := by decide +kernel
theorem d51_4 : decode prog_32_method_3_code 4 = .ok (.ifnonnull 14, 3) := by decide +kernel
theorem d51_7 : decode prog_32_method_3_code 7 = .ok (.aload_n 0, 1) := by decide +kernel
theorem d51_8 : decode prog_32_method_3_code 8 = .ok (.iload_n 1, 1) := by decide +kernel
theorem d51_9 : decode prog_32_method_3_code 9 = .ok (.bipush 6, 2) := by decide +kernel
theorem d51_11 : decode prog_32_method_3_code 11 = .ok (.iushr, 1) := by decide +kernel
theorem d51_12 : decode prog_32_method_3_code 12 = .ok (.invokevirtual 22, 3) := by decide +kernel
theorem d51_15 : decode prog_32_method_3_code 15 = .ok (.goto 4, 3) := by decide +kernel
theorem d51_18 : decode prog_32_method_3_code 18 = .ok (.aconst_null, 1) := by decide +kernel
theorem d51_19 : decode prog_32_method_3_code 19 = .ok (.astore_n 3, 1) := by decide +kernel
theorem d51_20 : decode prog_32_method_3_code 20 = .ok (.aload_n 3, 1) := by decide +kernel
theorem d51_21 : decode prog_32_method_3_code 21 = .ok (.ifnull 13, 3) := by decide +kernel
theorem d51_24 : decode prog_32_method_3_code 24 = .ok (.aload_n 3, 1) := by decide +kernel
theorem d51_25 : decode prog_32_method_3_code 25 = .ok (.iload_n 1, 1) := by decide +kernel
theorem d51_26 : decode prog_32_method_3_code 26 = .ok (.bipush 63, 2) := by decide +kernel
theorem d51_28 : decode prog_32_method_3_code 28 = .ok (.iand, 1) := by decide +kernel
theorem d51_29 : decode prog_32_method_3_code 29 = .ok (.iload_n 2, 1) := by decide +kernel
theorem d51_30 : decode prog_32_method_3_code 30 = .ok (.iastore, 1) := by decide +kernel
theorem d51_31 : decode prog_32_method_3_code 31 = .ok (.goto 10, 3) := by decide +kernel
theorem d51_34 : decode prog_32_method_3_code 34 = .ok (.aload_n 0, 1) := by decide +kernel
theorem d51_35 : decode prog_32_method_3_code 35 = .ok (.getfield 19, 3) := by decide +kernel
theorem d51_38 : decode prog_32_method_3_code 38 = .ok (.iload_n 1, 1) := by decide +kernel
theorem d51_39 : decode prog_32_method_3_code 39 = .ok (.iload_n 2, 1) := by decide +kernel
theorem d51_40 : decode prog_32_method_3_code 40 = .ok (.iastore, 1) := by decide +kernel
theorem d51_41 : decode prog_32_method_3_code 41 = .ok (.return_, 1) := by decide +kernel
theorem ef_51 (m : MethodId) (x0 : Addr) (x1 : Int32) (x2 : Int32) : entryFrame m #[(.ref x0), (.int x1), (.int x2)] 4 = mkF m 0 #[.val (.ref x0), .val (.int x1), .val (.int x2), .unset] [] := by first | (simp [entryFrame, mkF, argsToLocals, Value.category]; done) | rfl
def Q51 (Z : State) (a1 : Addr) (iv lv n : Int32) (f : Nat → Int32) (h0 : Heap) (n0 : Nat) (v : Option Value) (h : Heap) (L : List Loc) : Prop := v = none ∧ Fr n0 L ∧ Old Z n0 h ∧ n0 ≤ h.size ∧ Lab Z h n0 a1 n (fupd f iv.toInt.toNat lv) (1 + 1)
set_option maxRecDepth 65536 in
set_option maxHeartbeats 40000000 in
theorem rm51 (l : Launch) (Z : State) (a0 : Array Value) (hw : ∀ d ∈ tables_1, d.before a0 Z = true) (ws : List Jvm.Cond) (a1 : Addr) (iv lv n : Int32) (f : Nat → Int32) (h0 : Heap) (n0 : Nat) (Z0 : n0 ≤ h0.size) (OLD : Old Z n0 h0) (hL : Lab Z h0 n0 a1 n f 1) (hn : OkN n) (hp : InN n iv) :
    MetFree l (⟨"com/example/dispatchwave/dispatchwave/model/VertexLabels", "put", "(II)V"⟩ : MethodName) (head1 (Jvm.Cond.code (⟨"com/example/dispatchwave/dispatchwave/model/VertexLabels", "put", "(II)V"⟩ : MethodName) prog_32_method_3_code 4 none :: ws) ({ frames := 2, cells := 1, slots := 448, locals := 57 } : Room)) (fun a U => a = #[(.ref a1), (.int iv), (.int lv)] ∧ Z.Warmed39 U.vm ∧ U.heap = h0) (fun _ _ _ _ _ => True) (fun _ U o U' => ∃ v L, o = .returned v ∧ Q51 Z a1 iv lv n f h0 n0 v U'.heap L ∧ FrameEnd U o U' L ({ frames := 2, cells := 1, slots := 448, locals := 57 } : Room).cells ({ frames := 2, cells := 1, slots := 448, locals := 57 } : Room).slots) := by
  refine MetFree.of_bodySF (plainFor_of_name pn_VertexLabels) hisR ?_
  intro p e s m args below meth c s₁ Bd hml0 hP hK
  obtain ⟨rfl, hZ, hh⟩ := hP
  have hx := Bd.exec
  have hby := Bd.bytes
  have hml : c.maxLocals = 4 := hml0
  have hown : s.vm.findClass "com/example/dispatchwave/dispatchwave/model/VertexLabels" = some m.cls := findClass_of_methodNamed Bd.named
  have hnm := (name_of_methodNamed Bd.named Bd.method).1
  have hlk : meth.locks = false := BodyLoose.notSynchronized Bd
  have hret := Bd.returns
  have X0 : Stand p l e ({ frames := 2, cells := 1, slots := 448, locals := 57 } : Room) s m #[(.ref a1), (.int iv), (.int lv)] below meth c s₁ [] 0 0 := Stand.of_body Bd
  have e0 : s₁.heap = h0 := by rw [← hh, Bd.state]; rfl
  have N0 := Fr.nil n0
  refine ogo (U' := s₁.setTop (mkF m 0 #[.val (.ref a1), .val (.int iv), .val (.int lv), .unset] [])) (Q := Q51 Z a1 iv lv n f h0 n0) (K := ({ frames := 2, cells := 1, slots := 448, locals := 57 } : Room).cells) (N := ({ frames := 2, cells := 1, slots := 448, locals := 57 } : Room).slots) (fun t k => castTop (ef_51 m a1 iv lv) k) ?_
  obtain ⟨⟨g1, E_1, F_n⟩, hm⟩ := hL
  rcases hm with ⟨b, gb, F_a, V_b⟩ | ⟨pf, cT, mu, kT, F_a, gc, F_p, F_m, hmu, V_c, O_c, PPh, PIh⟩
  · show OwnEnds _ _ _ _ _ _ _ (s₁.setTop (mkF m 0 #[.val (.ref a1), .val (.int iv), .val (.int lv), .unset] []))
    refine ogo (fun t k => XS.aloadN X0.here hx rfl (hb hby d51_0) rfl rfl k) ?_
    show OwnEnds _ _ _ _ _ _ _ (s₁.setTop (mkF m 1 #[.val (.ref a1), .val (.int iv), .val (.int lv), .unset] [(.ref a1)]))
    obtain ⟨T1, X1, e1, st1⟩ := getF X0 hx hZ hown (host := "") (Or.inl (hw _ (List.mem_of_getElem? (i := 25) rfl))) Via.refl e0 F_a (g := (mkF m 1 #[.val (.ref a1), .val (.int iv), .val (.int lv), .unset] [(.ref a1)])) rfl rfl (hb hby d51_1)
    refine ogo st1 ?_
    show OwnEnds _ _ _ _ _ _ _ (T1.setTop (mkF m 4 #[.val (.ref a1), .val (.int iv), .val (.int lv), .unset] [(.ref b)]))
    refine ogo (fun t k => XS.ifnonnullYes X1.here hx rfl (pc0 := 4) (pc' := 18) rfl (hb hby d51_4) rfl (by decide) (by decide) k) ?_
    show OwnEnds _ _ _ _ _ _ _ (T1.setTop (mkF m 18 #[.val (.ref a1), .val (.int iv), .val (.int lv), .unset] []))
    refine ogo (fun t k => XS.aconstNull X1.here hx rfl (hb hby d51_18) k) ?_
    show OwnEnds _ _ _ _ _ _ _ (T1.setTop (mkF m 19 #[.val (.ref a1), .val (.int iv), .val (.int lv), .unset] [.null]))
    refine ogo (fun t k => XS.astoreN X1.here hx rfl (hb hby d51_19) rfl rfl (l' := #[.val (.ref a1), .val (.int iv), .val (.int lv), .val .null]) rfl k) ?_
    show OwnEnds _ _ _ _ _ _ _ (T1.setTop (mkF m 20 #[.val (.ref a1), .val (.int iv), .val (.int lv), .val .null] []))
    refine ogo (fun t k => XS.aloadN X1.here hx rfl (hb hby d51_20) rfl rfl k) ?_
    show OwnEnds _ _ _ _ _ _ _ (T1.setTop (mkF m 21 #[.val (.ref a1), .val (.int iv), .val (.int lv), .val .null] [.null]))
    refine ogo (fun t k => XS.ifnullYes X1.here hx rfl (pc0 := 21) (pc' := 34) rfl (hb hby d51_21) rfl (by decide) (by decide) k) ?_
    show OwnEnds _ _ _ _ _ _ _ (T1.setTop (mkF m 34 #[.val (.ref a1), .val (.int iv), .val (.int lv), .val .null] []))
    refine ogo (fun t k => XS.aloadN X1.here hx rfl (hb hby d51_34) rfl rfl k) ?_
    show OwnEnds _ _ _ _ _ _ _ (T1.setTop (mkF m 35 #[.val (.ref a1), .val (.int iv), .val (.int lv), .val .null] [(.ref a1)]))
    obtain ⟨T2, X2, e2, st2⟩ := getF X1 hx hZ hown (host := "") (Or.inl (hw _ (List.mem_of_getElem? (i := 25) rfl))) Via.refl e1 F_a (g := (mkF m 35 #[.val (.ref a1), .val (.int iv), .val (.int lv), .val .null] [(.ref a1)])) rfl rfl (hb hby d51_35)
    refine ogo st2 ?_
    show OwnEnds _ _ _ _ _ _ _ (T2.setTop (mkF m 38 #[.val (.ref a1), .val (.int iv), .val (.int lv), .val .null] [(.ref b)]))
    refine ogo (fun t k => XS.iloadN X2.here hx rfl (hb hby d51_38) rfl k) ?_
    show OwnEnds _ _ _ _ _ _ _ (T2.setTop (mkF m 39 #[.val (.ref a1), .val (.int iv), .val (.int lv), .val .null] [(.int iv), (.ref b)]))
    refine ogo (fun t k => XS.iloadN X2.here hx rfl (hb hby d51_39) rfl k) ?_
    show OwnEnds _ _ _ _ _ _ _ (T2.setTop (mkF m 40 #[.val (.ref a1), .val (.int iv), .val (.int lv), .val .null] [(.int lv), (.int iv), (.ref b)]))
    obtain ⟨ak3, cl3, Ar3, Aq3, As3, An3, Ah3, Ag3⟩ := id V_b
    obtain ⟨T3, h3, X3, e3, W3, st3⟩ := stI X2 hx hZ e2 Ar3 (j := iv) (inb_of As3 (own_pv hn hp).1) (g := (mkF m 40 #[.val (.ref a1), .val (.int iv), .val (.int lv), .val .null] [(.int lv), (.int iv), (.ref b)])) rfl rfl (hb hby d51_40)
    have V3 : Arv Z h3 b ak3 .int (n + 1) (lst (fupd f iv.toInt.toNat lv) (n + 1).toNatClampNeg) (.int (0 : Int32)) := by
      have q := Arv.set Ar3 Aq3 As3 An3 Ah3 Ag3 rfl W3 iv.toInt.toNat rfl (by rw [lst_len]; exact (own_pv hn hp).2)
      rw [lst_set] at q
      exact q
    have nx4 : a1 ≠ b := (Ne.symm (Av.neObj V_b E_1 (hw _ (List.mem_of_getElem? (i := 6) rfl))))
    have f5 := E_1.wr W3
    have f6 := F_n.other W3 (Or.inl nx4)
    have f7 := F_a.other W3 (Or.inl nx4)
    have N8 := Fr.snoc X3 N0 gb
    have OLD8 := OLD.wr W3 gb
    have Z8 := Nat.le_trans Z0 (Nat.le_of_eq W3.size.symm)
    refine ogo st3 ?_
    show OwnEnds _ _ _ _ _ _ _ (T3.setTop (mkF m 41 #[.val (.ref a1), .val (.int iv), .val (.int lv), .val .null] []))
    refine endV X3 hx hlk hret (hb hby d51_41) (by decide) (by decide) ?_
    show Q51 Z a1 iv lv n f h0 n0 _ T3.heap _
    rw [e3]
    exact ⟨rfl, N8, OLD8, Z8, ⟨g1, f5, f6⟩, Or.inl ⟨b, gb, f7, ⟨_, V3⟩⟩⟩
  · show OwnEnds _ _ _ _ _ _ _ (s₁.setTop (mkF m 0 #[.val (.ref a1), .val (.int iv), .val (.int lv), .unset] []))
    refine ogo (fun t k => XS.aloadN X0.here hx rfl (hb hby d51_0) rfl rfl k) ?_
    show OwnEnds _ _ _ _ _ _ _ (s₁.setTop (mkF m 1 #[.val (.ref a1), .val (.int iv), .val (.int lv), .unset] [(.ref a1)]))
    obtain ⟨T9, X9, e9, st9⟩ := getF X0 hx hZ hown (host := "") (Or.inl (hw _ (List.mem_of_getElem? (i := 25) rfl))) Via.refl e0 F_a (g := (mkF m 1 #[.val (.ref a1), .val (.int iv), .val (.int lv), .unset] [(.ref a1)])) rfl rfl (hb hby d51_1)
    refine ogo st9 ?_
    show OwnEnds _ _ _ _ _ _ _ (T9.setTop (mkF m 4 #[.val (.ref a1), .val (.int iv), .val (.int lv), .unset] [.null]))
    refine ogo (fun t k => XS.ifnonnullNo X9.here hx rfl (hb hby d51_4) rfl k) ?_
    show OwnEnds _ _ _ _ _ _ _ (T9.setTop (mkF m 7 #[.val (.ref a1), .val (.int iv), .val (.int lv), .unset] []))
    refine ogo (fun t k => XS.aloadN X9.here hx rfl (hb hby d51_7) rfl rfl k) ?_
    show OwnEnds _ _ _ _ _ _ _ (T9.setTop (mkF m 8 #[.val (.ref a1), .val (.int iv), .val (.int lv), .unset] [(.ref a1)]))
    refine ogo (fun t k => XS.iloadN X9.here hx rfl (hb hby d51_8) rfl k) ?_
    show OwnEnds _ _ _ _ _ _ _ (T9.setTop (mkF m 9 #[.val (.ref a1), .val (.int iv), .val (.int lv), .unset] [(.int iv), (.ref a1)]))
    refine ogo (fun t k => XS.bipush X9.here hx rfl (hb hby d51_9) k) ?_
    show OwnEnds _ _ _ _ _ _ _ (T9.setTop (mkF m 11 #[.val (.ref a1), .val (.int iv), .val (.int lv), .unset] [(.int (6 : Int32)), (.int iv), (.ref a1)]))
    refine ogo (fun t k => XS.iushr X9.here hx rfl (hb hby d51_11) rfl k) ?_
    show OwnEnds _ _ _ _ _ _ _ (T9.setTop (mkF m 12 #[.val (.ref a1), .val (.int iv), .val (.int lv), .unset] [(.int ((iv.toUInt32 >>> ((6 : Int32) &&& 31).toUInt32).toInt32)), (.ref a1)]))
    obtain ⟨cq10, q10, q10'⟩ := E_1.cell
    obtain ⟨v10, _, ⟨T10, L10, k10, n10⟩, -, X10, ⟨Lc10, hQ10, l10, y10, z10⟩, st10⟩ := X9.privateBack hx (y := (⟨"com/example/dispatchwave/dispatchwave/model/VertexLabels", "page", "(I)[I"⟩ : MethodName)) hown (mvT hZ (hw _ (List.mem_of_getElem? (i := 32) rfl))) (mvT hZ (hw _ (List.mem_of_getElem? (i := 33) rfl))) (own_selP (z := (⟨"com/example/dispatchwave/dispatchwave/model/VertexLabels", "get", "(I)I"⟩ : MethodName)) (mvT hZ (hw _ (List.mem_of_getElem? (i := 23) rfl))) rfl (Cond.privateMethod_at (mvP hZ (hw _ (List.mem_of_getElem? (i := 34) rfl)) (args := #[]))) (mvT hZ (hw _ (List.mem_of_getElem? (i := 33) rfl))) (by decide)) (Cond.privateMethod_at (mvP hZ (hw _ (List.mem_of_getElem? (i := 34) rfl)) (args := #[]))) (mvT hZ (hw _ (List.mem_of_getElem? (i := 35) rfl))) (by decide) (backOf (W := 0) (rm41 l Z a0 hw [] a1 iv n f pf cT mu kT h0 n0 Z0 OLD g1 E_1 F_n F_a gc F_p F_m hmu V_c O_c PPh PIh hn hp) hZ (hw _ (List.mem_of_getElem? (i := 35) rfl)) (hw _ (List.mem_of_getElem? (i := 7) rfl)) (by decide) (by decide)) (g := (mkF m 12 #[.val (.ref a1), .val (.int iv), .val (.int lv), .unset] [(.int ((iv.toUInt32 >>> ((6 : Int32) &&& 31).toUInt32).toInt32)), (.ref a1)])) rfl (by rw [hml]; rfl) (Steps.refl _) (a := a1) (by rw [e9]; exact q10) q10' (argsL := [(.int ((iv.toUInt32 >>> ((6 : Int32) &&& 31).toUInt32).toInt32))]) (rest := []) (lenOf pd__I__I rfl) rfl (by show 2 * 0 + _ ≤ _; exact Nat.le_of_eq rfl) (hb hby d51_12) (fun _ _ => ⟨rfl, e9, (by decide : 0 + 1 ≤ _), (by decide : 0 + 448 ≤ _)⟩)
    dsimp only [Pt.U, Pt.locs, Pt.cells, Pt.slots] at X10 l10 y10 z10 st10 hQ10
    subst l10 y10 z10
    obtain ⟨N10q, OLDq, Zq, hcase⟩ := hQ10
    have N10 := Fr.app N0 N10q
    rcases hcase with ⟨p, pf, mu, rfl, ep, ⟨g1, E_1, F_n⟩, F_a, gc, F_p, F_m, hmu, V_c, O_c, PPq, PIq⟩ | ⟨rfl, ⟨g1, E_1, F_n⟩, b, gb, F_a, V_b⟩
    · refine ogo (fun t k => st10.trans k) ?_
      obtain ⟨gp, Vp⟩ := PPq.page (own_pi hn hp).2.2 ep
      show OwnEnds _ _ _ _ _ _ _ (T10.setTop (mkF m 15 #[.val (.ref a1), .val (.int iv), .val (.int lv), .unset] [(.ref p)]))
      refine ogo (fun t k => XS.goto X10.here hx rfl (pc0 := 15) (pc' := 19) rfl (hb hby d51_15) (by decide) (by decide) k) ?_
      show OwnEnds _ _ _ _ _ _ _ (T10.setTop (mkF m 19 #[.val (.ref a1), .val (.int iv), .val (.int lv), .unset] [(.ref p)]))
      refine ogo (fun t k => XS.astoreN X10.here hx rfl (hb hby d51_19) rfl rfl (l' := #[.val (.ref a1), .val (.int iv), .val (.int lv), .val (.ref p)]) rfl k) ?_
      show OwnEnds _ _ _ _ _ _ _ (T10.setTop (mkF m 20 #[.val (.ref a1), .val (.int iv), .val (.int lv), .val (.ref p)] []))
      refine ogo (fun t k => XS.aloadN X10.here hx rfl (hb hby d51_20) rfl rfl k) ?_
      show OwnEnds _ _ _ _ _ _ _ (T10.setTop (mkF m 21 #[.val (.ref a1), .val (.int iv), .val (.int lv), .val (.ref p)] [(.ref p)]))
      refine ogo (fun t k => XS.ifnullNo X10.here hx rfl (hb hby d51_21) rfl k) ?_
      show OwnEnds _ _ _ _ _ _ _ (T10.setTop (mkF m 24 #[.val (.ref a1), .val (.int iv), .val (.int lv), .val (.ref p)] []))
      refine ogo (fun t k => XS.aloadN X10.here hx rfl (hb hby d51_24) rfl rfl k) ?_
      show OwnEnds _ _ _ _ _ _ _ (T10.setTop (mkF m 25 #[.val (.ref a1), .val (.int iv), .val (.int lv), .val (.ref p)] [(.ref p)]))
      refine ogo (fun t k => XS.iloadN X10.here hx rfl (hb hby d51_25) rfl k) ?_
      show OwnEnds _ _ _ _ _ _ _ (T10.setTop (mkF m 26 #[.val (.ref a1), .val (.int iv), .val (.int lv), .val (.ref p)] [(.int iv), (.ref p)]))
      refine ogo (fun t k => XS.bipush X10.here hx rfl (hb hby d51_26) k) ?_
      show OwnEnds _ _ _ _ _ _ _ (T10.setTop (mkF m 28 #[.val (.ref a1), .val (.int iv), .val (.int lv), .val (.ref p)] [(.int (63 : Int32)), (.int iv), (.ref p)]))
      refine ogo (fun t k => XS.iand X10.here hx rfl (hb hby d51_28) rfl k) ?_
      show OwnEnds _ _ _ _ _ _ _ (T10.setTop (mkF m 29 #[.val (.ref a1), .val (.int iv), .val (.int lv), .val (.ref p)] [(.int (iv &&& (63 : Int32))), (.ref p)]))
      refine ogo (fun t k => XS.iloadN X10.here hx rfl (hb hby d51_29) rfl k) ?_
      show OwnEnds _ _ _ _ _ _ _ (T10.setTop (mkF m 30 #[.val (.ref a1), .val (.int iv), .val (.int lv), .val (.ref p)] [(.int lv), (.int (iv &&& (63 : Int32))), (.ref p)]))
      obtain ⟨ak11, cl11, Ar11, Aq11, As11, An11, Ah11, Ag11⟩ := id Vp
      obtain ⟨T11, h11, X11, e11, W11, st11⟩ := stI X10 hx hZ rfl Ar11 (j := iv &&& 63) (inb_of As11 (own_pj iv hp.1).1) (g := (mkF m 30 #[.val (.ref a1), .val (.int iv), .val (.int lv), .val (.ref p)] [(.int lv), (.int (iv &&& (63 : Int32))), (.ref p)])) rfl rfl (hb hby d51_30)
      have V11 : Av Z h11 p .int (64 : Int32) (lst (fupd (fun j => f (64 * (iv.toInt.toNat / 64) + j)) (iv.toInt.toNat % 64) lv) 64) (.int (0 : Int32)) := by
        have q := Arv.set Ar11 Aq11 As11 An11 Ah11 Ag11 rfl W11 (iv.toInt.toNat % 64) (own_pj iv hp.1).2 (by rw [lst_len]; exact Nat.mod_lt _ (by decide))
        rw [lst_set] at q
        exact ⟨_, q⟩
      have nxc : cT ≠ p := Ne.symm (PPq.neTab V_c _ _ (own_pi hn hp).2.2 ep)
      have Pn : PP Z h11 n0 pf (own_L n).toNatClampNeg (fupd f iv.toInt.toNat lv) := by
        have q := PPq.write PIq (own_pi hn hp).2.2 ep (Nat.mod_lt _ (by decide)) (Keep.of_wr W11) V11
        rw [own_64] at q
        exact q
      have nx12 : a1 ≠ p := (Ne.symm (Av.neObj Vp E_1 (hw _ (List.mem_of_getElem? (i := 6) rfl))))
      have f13 := E_1.wr W11
      have f14 := F_n.other W11 (Or.inl nx12)
      have f15 := F_a.other W11 (Or.inl nx12)
      have f16 := F_p.other W11 (Or.inl nx12)
      have f17 := F_m.other W11 (Or.inl nx12)
      have f18 := V_c.other W11 nxc
      have N19 := Fr.snoc X11 N10 gp
      have OLD19 := OLDq.wr W11 gp
      have Z19 := Nat.le_trans Zq (Nat.le_of_eq W11.size.symm)
      refine ogo st11 ?_
      show OwnEnds _ _ _ _ _ _ _ (T11.setTop (mkF m 31 #[.val (.ref a1), .val (.int iv), .val (.int lv), .val (.ref p)] []))
      refine ogo (fun t k => XS.goto X11.here hx rfl (pc0 := 31) (pc' := 41) rfl (hb hby d51_31) (by decide) (by decide) k) ?_
      show OwnEnds _ _ _ _ _ _ _ (T11.setTop (mkF m 41 #[.val (.ref a1), .val (.int iv), .val (.int lv), .val (.ref p)] []))
      refine endV X11 hx hlk hret (hb hby d51_41) (by decide) (by decide) ?_
      show Q51 Z a1 iv lv n f h0 n0 _ T11.heap _
      rw [e11]
      exact ⟨rfl, N19, OLD19, Z19, ⟨g1, f13, f14⟩, Or.inr ⟨pf, cT, mu, kT, f15, gc, f16, f17, hmu, f18, O_c, Pn, PIq⟩⟩
    · refine ogo (fun t k => st10.trans k) ?_
      show OwnEnds _ _ _ _ _ _ _ (T10.setTop (mkF m 15 #[.val (.ref a1), .val (.int iv), .val (.int lv), .unset] [.null]))
      refine ogo (fun t k => XS.goto X10.here hx rfl (pc0 := 15) (pc' := 19) rfl (hb hby d51_15) (by decide) (by decide) k) ?_
      show OwnEnds _ _ _ _ _ _ _ (T10.setTop (mkF m 19 #[.val (.ref a1), .val (.int iv), .val (.int lv), .unset] [.null]))
      refine ogo (fun t k => XS.astoreN X10.here hx rfl (hb hby d51_19) rfl rfl (l' := #[.val (.ref a1), .val (.int iv), .val (.int lv), .val .null]) rfl k) ?_
      show OwnEnds _ _ _ _ _ _ _ (T10.setTop (mkF m 20 #[.val (.ref a1), .val (.int iv), .val (.int lv), .val .null] []))
      refine ogo (fun t k => XS.aloadN X10.here hx rfl (hb hby d51_20) rfl rfl k) ?_
      show OwnEnds _ _ _ _ _ _ _ (T10.setTop (mkF m 21 #[.val (.ref a1), .val (.int iv), .val (.int lv), .val .null] [.null]))
      refine ogo (fun t k => XS.ifnullYes X10.here hx rfl (pc0 := 21) (pc' := 34) rfl (hb hby d51_21) rfl (by decide) (by decide) k) ?_
      show OwnEnds _ _ _ _ _ _ _ (T10.setTop (mkF m 34 #[.val (.ref a1), .val (.int iv), .val (.int lv), .val .null] []))
      refine ogo (fun t k => XS.aloadN X10.here hx rfl (hb hby d51_34) rfl rfl k) ?_
      show OwnEnds _ _ _ _ _ _ _ (T10.setTop (mkF m 35 #[.val (.ref a1), .val (.int iv), .val (.int lv), .val .null] [(.ref a1)]))
      obtain ⟨T20, X20, e20, st20⟩ := getF X10 hx hZ hown (host := "") (Or.inl (hw _ (List.mem_of_getElem? (i := 25) rfl))) Via.refl rfl F_a (g := (mkF m 35 #[.val (.ref a1), .val (.int iv), .val (.int lv), .val .null] [(.ref a1)])) rfl rfl (hb hby d51_35)
      refine ogo st20 ?_
      show OwnEnds _ _ _ _ _ _ _ (T20.setTop (mkF m 38 #[.val (.ref a1), .val (.int iv), .val (.int lv), .val .null] [(.ref b)]))
      refine ogo (fun t k => XS.iloadN X20.here hx rfl (hb hby d51_38) rfl k) ?_
      show OwnEnds _ _ _ _ _ _ _ (T20.setTop (mkF m 39 #[.val (.ref a1), .val (.int iv), .val (.int lv), .val .null] [(.int iv), (.ref b)]))
      refine ogo (fun t k => XS.iloadN X20.here hx rfl (hb hby d51_39) rfl k) ?_
      show OwnEnds _ _ _ _ _ _ _ (T20.setTop (mkF m 40 #[.val (.ref a1), .val (.int iv), .val (.int lv), .val .null] [(.int lv), (.int iv), (.ref b)]))
      obtain ⟨ak21, cl21, Ar21, Aq21, As21, An21, Ah21, Ag21⟩ := id V_b
      obtain ⟨T21, h21, X21, e21, W21, st21⟩ := stI X20 hx hZ e20 Ar21 (j := iv) (inb_of As21 (own_pv hn hp).1) (g := (mkF m 40 #[.val (.ref a1), .val (.int iv), .val (.int lv), .val .null] [(.int lv), (.int iv), (.ref b)])) rfl rfl (hb hby d51_40)
      have V21 : Arv Z h21 b ak21 .int (n + 1) (lst (fupd f iv.toInt.toNat lv) (n + 1).toNatClampNeg) (.int (0 : Int32)) := by
        have q := Arv.set Ar21 Aq21 As21 An21 Ah21 Ag21 rfl W21 iv.toInt.toNat rfl (by rw [lst_len]; exact (own_pv hn hp).2)
        rw [lst_set] at q
        exact q
      have nx22 : a1 ≠ b := (Ne.symm (Av.neObj V_b E_1 (hw _ (List.mem_of_getElem? (i := 6) rfl))))
      have f23 := E_1.wr W21
      have f24 := F_n.other W21 (Or.inl nx22)
      have f25 := F_a.other W21 (Or.inl nx22)
      have N26 := Fr.snoc X21 N10 gb
      have OLD26 := OLDq.wr W21 gb
      have Z26 := Nat.le_trans Zq (Nat.le_of_eq W21.size.symm)
      refine ogo st21 ?_
      show OwnEnds _ _ _ _ _ _ _ (T21.setTop (mkF m 41 #[.val (.ref a1), .val (.int iv), .val (.int lv), .val .null] []))
      refine endV X21 hx hlk hret (hb hby d51_41) (by decide) (by decide) ?_
      show Q51 Z a1 iv lv n f h0 n0 _ T21.heap _
      rw [e21]
      exact ⟨rfl, N26, OLD26, Z26, ⟨g1, f23, f24⟩, Or.inl ⟨b, gb, f25, ⟨_, V21⟩⟩⟩
theorem d42_0 : decode prog_32_method_4_code 0 = .ok (.aload_n 0, 1) := by decide +kernel
theorem d42_1 : decode prog_32_method_4_code 1 = .ok (.getfield 15, 3) := by decide +kernel
theorem d42_4 : decode prog_32_method_4_code 4 = .ok (.iload_n 1, 1) := by decide +kernel
theorem d42_5 : decode prog_32_method_4_code 5 = .ok (.aaload, 1) := by decide +kernel
theorem d42_6 : decode prog_32_method_4_code 6 = .ok (.astore_n 2, 1) := by decide +kernel
theorem d42_7 : decode prog_32_method_4_code 7 = .ok (.aload_n 2, 1) := by decide +kernel
theorem d42_8 : decode prog_32_method_4_code 8 = .ok (.ifnonnull 109, 3) := by decide +kernel
theorem d42_11 : decode prog_32_method_4_code 11 = .ok (.ldc2_w 26, 3) := by decide +kernel
theorem d42_14 : decode prog_32_method_4_code 14 = .ok (.aload_n 0, 1) := by decide +kernel
theorem d42_15 : decode prog_32_method_4_code 15 = .ok (.getfield 28, 3) := by decide +kernel
theorem d42_18 : decode prog_32_method_4_code 18 = .ok (.iconst 1, 1) := by decide +kernel
theorem d42_19 : decode prog_32_method_4_code 19 = .ok (.iadd, 1) := by decide +kernel
theorem d42_20 : decode prog_32_method_4_code 20 = .ok (.i2l, 1) := by decide +kernel
theorem d42_21 : decode prog_32_method_4_code 21 = .ok (.lmul, 1) := by decide +kernel
theorem d42_22 : decode prog_32_method_4_code 22 = .ok (.aload_n 0, 1) := by decide +kernel
theorem d42_23 : decode prog_32_method_4_code 23 = .ok (.getfield 15, 3) := by decide +kernel
theorem d42_26 : decode prog_32_method_4_code 26 = .ok (.arraylength, 1) := by decide +kernel
theorem d42_27 : decode prog_32_method_4_code 27 = .ok (.i2l, 1) := by decide +kernel
theorem d42_28 : decode prog_32_method_4_code 28 = .ok (.lcmp, 1) := by decide +kernel
theorem d42_29 : decode prog_32_method_4_code 29 = .ok (.ifCond .le 88, 3) := by decide +kernel
theorem d42_32 : decode prog_32_method_4_code 32 = .ok (.aload_n 0, 1) := by decide +kernel
theorem d42_33 : decode prog_32_method_4_code 33 = .ok (.aload_n 0, 1) := by decide +kernel
theorem d42_34 : decode prog_32_method_4_code 34 = .ok (.getfield 9, 3) := by decide +kernel
theorem d42_37 : decode prog_32_method_4_code 37 = .ok (.iconst 1, 1) := by decide +kernel
theorem d42_38 : decode prog_32_method_4_code 38 = .ok (.iadd, 1) := by decide +kernel
theorem d42_39 : decode prog_32_method_4_code 39 = .ok (.newarray .int, 2) := by decide +kernel
theorem d42_41 : decode prog_32_method_4_code 41 = .ok (.putfield 19, 3) := by decide +kernel
theorem d42_44 : decode prog_32_method_4_code 44 = .ok (.iconst 0, 1) := by decide +kernel
theorem d42_45 : decode prog_32_method_4_code 45 = .ok (.istore_n 3, 1) := by decide +kernel
theorem d42_46 : decode prog_32_method_4_code 46 = .ok (.iload_n 3, 1) := by decide +kernel
theorem d42_47 : decode prog_32_method_4_code 47 = .ok (.aload_n 0, 1) := by decide +kernel
theorem d42_48 : decode prog_32_method_4_code 48 = .ok (.getfield 15, 3) := by decide +kernel
theorem d42_51 : decode prog_32_method_4_code 51 = .ok (.arraylength, 1) := by decide +kernel
theorem d42_52 : decode prog_32_method_4_code 52 = .ok (.if_icmp .ge 57, 3) := by decide +kernel
theorem d42_55 : decode prog_32_method_4_code 55 = .ok (.aload_n 0, 1) := by decide +kernel
theorem d42_56 : decode prog_32_method_4_code 56 = .ok (.getfield 15, 3) := by decide +kernel
theorem d42_59 : decode prog_32_method_4_code 59 = .ok (.iload_n 3, 1) := by decide +kernel
theorem d42_60 : decode prog_32_method_4_code 60 = .ok (.aaload, 1) := by decide +kernel
theorem d42_61 : decode prog_32_method_4_code 61 = .ok (.ifnull 42, 3) := by decide +kernel
theorem d42_64 : decode prog_32_method_4_code 64 = .ok (.iload_n 3, 1) := by decide +kernel
theorem d42_65 : decode prog_32_method_4_code 65 = .ok (.bipush 6, 2) := by decide +kernel
theorem d42_67 : decode prog_32_method_4_code 67 = .ok (.ishl, 1) := by decide +kernel
theorem d42_68 : decode prog_32_method_4_code 68 = .ok (.istore 4, 2) := by decide +kernel
theorem d42_70 : decode prog_32_method_4_code 70 = .ok (.bipush 64, 2) := by decide +kernel
theorem d42_72 : decode prog_32_method_4_code 72 = .ok (.aload_n 0, 1) := by decide +kernel
theorem d42_73 : decode prog_32_method_4_code 73 = .ok (.getfield 19, 3) := by decide +kernel
theorem d42_76 : decode prog_32_method_4_code 76 = .ok (.arraylength, 1) := by decide +kernel
theorem d42_77 : decode prog_32_method_4_code 77 = .ok (.iload 4, 2) := by decide +kernel
theorem d42_79 : decode prog_32_method_4_code 79 = .ok (.isub, 1) := by decide +kernel
theorem d42_80 : decode prog_32_method_4_code 80 = .ok (.invokestatic 31, 3) := by decide +kernel
theorem d42_83 : decode prog_32_method_4_code 83 = .ok (.istore 5, 2) := by decide +kernel
theorem d42_85 : decode prog_32_method_4_code 85 = .ok (.aload_n 0, 1) := by decide +kernel
theorem d42_86 : decode prog_32_method_4_code 86 = .ok (.getfield 15, 3) := by decide +kernel
theorem d42_89 : decode prog_32_method_4_code 89 = .ok (.iload_n 3, 1) := by decide +kernel
theorem d42_90 : decode prog_32_method_4_code 90 = .ok (.aaload, 1) := by decide +kernel
theorem d42_91 : decode prog_32_method_4_code 91 = .ok (.iconst 0, 1) := by decide +kernel
theorem d42_92 : decode prog_32_method_4_code 92 = .ok (.aload_n 0, 1) := by decide +kernel
theorem d42_93 : decode prog_32_method_4_code 93 = .ok (.getfield 19, 3) := by decide +kernel
theorem d42_96 : decode prog_32_method_4_code 96 = .ok (.iload 4, 2) := by decide +kernel
theorem d42_98 : decode prog_32_method_4_code 98 = .ok (.iload 5, 2) := by decide +kernel
theorem d42_100 : decode prog_32_method_4_code 100 = .ok (.invokestatic 37, 3) := by decide +kernel
theorem d42_103 : decode prog_32_method_4_code 103 = .ok (.iinc 3 1, 3) := by decide +kernel
theorem d42_106 : decode prog_32_method_4_code 106 = .ok (.goto (-60), 3) := by decide +kernel
theorem d42_109 : decode prog_32_method_4_code 109 = .ok (.aload_n 0, 1) := by decide +kernel
theorem d42_110 : decode prog_32_method_4_code 110 = .ok (.aconst_null, 1) := by decide +kernel
theorem d42_111 : decode prog_32_method_4_code 111 = .ok (.putfield 15, 3) := by decide +kernel
theorem d42_114 : decode prog_32_method_4_code 114 = .ok (.goto 29, 3) := by decide +kernel
theorem d42_117 : decode prog_32_method_4_code 117 = .ok (.aload_n 2, 1) := by decide +kernel
theorem d42_118 : decode prog_32_method_4_code 118 = .ok (.ifnonnull 25, 3) := by decide +kernel
theorem d42_121 : decode prog_32_method_4_code 121 = .ok (.bipush 64, 2) := by decide +kernel
theorem d42_123 : decode prog_32_method_4_code 123 = .ok (.newarray .int, 2) := by decide +kernel
theorem d42_125 : decode prog_32_method_4_code 125 = .ok (.astore_n 2, 1) := by decide +kernel
theorem d42_126 : decode prog_32_method_4_code 126 = .ok (.aload_n 0, 1) := by decide +kernel
theorem d42_127 : decode prog_32_method_4_code 127 = .ok (.getfield 15, 3) := by decide +kernel
theorem d42_130 : decode prog_32_method_4_code 130 = .ok (.iload_n 1, 1) := by decide +kernel
theorem d42_131 : decode prog_32_method_4_code 131 = .ok (.aload_n 2, 1) := by decide +kernel
theorem d42_132 : decode prog_32_method_4_code 132 = .ok (.aastore, 1) := by decide +kernel
theorem d42_133 : decode prog_32_method_4_code 133 = .ok (.aload_n 0, 1) := by decide +kernel
theorem d42_134 : decode prog_32_method_4_code 134 = .ok (.dup, 1) := by decide +kernel
theorem d42_135 : decode prog_32_method_4_code 135 = .ok (.getfield 28, 3) := by decide +kernel
theorem d42_138 : decode prog_32_method_4_code 138 = .ok (.iconst 1, 1) := by decide +kernel
theorem d42_139 : decode prog_32_method_4_code 139 = .ok (.iadd, 1) := by decide +kernel
theorem d42_140 : decode prog_32_method_4_code 140 = .ok (.putfield 28, 3) := by decide +kernel
theorem d42_143 : decode prog_32_method_4_code 143 = .ok (.aload_n 2, 1) := by decide +kernel
theorem d42_144 : decode prog_32_method_4_code 144 = .ok (.areturn, 1) := by decide +kernel
theorem ef_42 (m : MethodId) (x0 : Addr) (x1 : Int32) : entryFrame m #[(.ref x0), (.int x1)] 6 = mkF m 0 #[.val (.ref x0), .val (.int x1), .unset, .unset, .unset, .unset] [] := by first | (simp [entryFrame, mkF, argsToLocals, Value.category]; done) | rfl
def Q42 (Z : State) (a1 : Addr) (iv n : Int32) (f : Nat → Int32) (pf : Nat → Value) (cT : Addr) (mu : Int32) (kT : ClassId) (h0 : Heap) (n0 : Nat) (v : Option Value) (h : Heap) (L : List Loc) : Prop := Fr n0 L ∧ Old Z n0 h ∧ n0 ≤ h.size ∧ PgQ Z h n0 a1 n (iv.toInt.toNat / 64) f (2 + 1) cT kT v
set_option maxRecDepth 65536 in
set_option maxHeartbeats 40000000 in
theorem lp42 {p : Program} {l : Launch} {e : Env} {s : State} {m : MethodId} {args : Array Value} {below : List Frame} {meth : Method} {c : Code} (Z : State) (a0 : Array Value) (hw : ∀ d ∈ tables_1, d.before a0 Z = true) (a1 : Addr) (iv n : Int32) (f : Nat → Int32) (pf : Nat → Value) (cT : Addr) (mu : Int32) (kT : ClassId) (h0 : Heap) (n0 : Nat) (g1 : n0 ≤ a1) (gc : n0 ≤ cT) (hn : OkN n) (b : Addr) (kb : ClassId) (q_b : n0 ≤ b) (pn_b : ∀ i (p : Addr), i < (own_L n).toNatClampNeg → pf i = .ref p → p ≠ b) (ne_a : a1 ≠ b) (ne_c : cT ≠ b) (hx : p.tables.exec = Jvm.exec) (hZ : Z.Warmed39 s.vm) (hby : c.code = prog_32_method_4_code) (hml : c.maxLocals = 6) (hown : s.vm.findClass "com/example/dispatchwave/dispatchwave/model/VertexLabels" = some m.cls) (hnm : meth.name = "page") (hlk : meth.locks = false) (hret : meth.sig.returnType = some (.array .int)) :
    ∀ (kk : Nat) (T0 : State) (hh : Heap) (locs : List Loc) (i : Int32) (s4 s5 : Slot), OneS s4 → OneS s5 → 0 ≤ i.toInt → i.toInt + kk = (own_L n).toInt → Stand p l e ({ frames := 1, cells := 1, slots := 704, locals := 40 } : Room) s m args below meth c T0 locs 1 704 → T0.heap = hh → Fr n0 locs → Old Z n0 hh → n0 ≤ hh.size → Exa Z hh a1 "com/example/dispatchwave/dispatchwave/model/VertexLabels" → Fld Z hh a1 "com/example/dispatchwave/dispatchwave/model/VertexLabels" "vertexCount" "I" (.int n) → Fld Z hh a1 "com/example/dispatchwave/dispatchwave/model/VertexLabels" "array" "[I" (.ref b) → Fld Z hh a1 "com/example/dispatchwave/dispatchwave/model/VertexLabels" "pages" "[[I" (.ref cT) → Arv Z hh cT kT (.array .int) (own_L n) (lstV pf (own_L n).toNatClampNeg) .null → Arv Z hh b kb .int (n + 1) (lst (own_part f i.toInt.toNat) (n + 1).toNatClampNeg) (.int (0 : Int32)) → PP Z hh n0 pf (own_L n).toNatClampNeg f → OwnEnds p.tables e below s ({ frames := 1, cells := 1, slots := 704, locals := 40 } : Room).cells ({ frames := 1, cells := 1, slots := 704, locals := 40 } : Room).slots (Q42 Z a1 iv n f pf cT mu kT h0 n0) (T0.setTop (mkF m 46 #[.val (.ref a1), .val (.int (own_sh6 iv)), .val .null, .val (.int i), s4, s5] [])) := by
  intro kk
  induction kk with
  | zero =>
    intro T0 hh locs i s4 s5 hs4 hs5 hi0 hik X0 e0 N0 OLD0 Z0 E_1 F_n F_a F_p V_c V_b PP0
    show OwnEnds _ _ _ _ _ _ _ (T0.setTop (mkF m 46 #[.val (.ref a1), .val (.int (own_sh6 iv)), .val .null, .val (.int i), s4, s5] []))
    refine ogo (fun t k => XS.iloadN X0.here hx rfl (hb hby d42_46) rfl k) ?_
    show OwnEnds _ _ _ _ _ _ _ (T0.setTop (mkF m 47 #[.val (.ref a1), .val (.int (own_sh6 iv)), .val .null, .val (.int i), s4, s5] [(.int i)]))
    refine ogo (fun t k => XS.aloadN X0.here hx rfl (hb hby d42_47) rfl rfl k) ?_
    show OwnEnds _ _ _ _ _ _ _ (T0.setTop (mkF m 48 #[.val (.ref a1), .val (.int (own_sh6 iv)), .val .null, .val (.int i), s4, s5] [(.ref a1), (.int i)]))
    obtain ⟨T31, X31, e31, st31⟩ := getF X0 hx hZ hown (host := "") (Or.inl (hw _ (List.mem_of_getElem? (i := 18) rfl))) Via.refl e0 F_p (g := (mkF m 48 #[.val (.ref a1), .val (.int (own_sh6 iv)), .val .null, .val (.int i), s4, s5] [(.ref a1), (.int i)])) rfl rfl (hb hby d42_48)
    refine ogo st31 ?_
    show OwnEnds _ _ _ _ _ _ _ (T31.setTop (mkF m 51 #[.val (.ref a1), .val (.int (own_sh6 iv)), .val .null, .val (.int i), s4, s5] [(.ref cT), (.int i)]))
    obtain ⟨cl32, Ar32, Aq32, As32, An32, Ah32, Ag32⟩ := id V_c
    refine ogo (fun t k => X31.arraylength hx (by rw [e31]; exact Ar32.1) (State.isArrayOf_alike hZ.alike Ar32.2.1) (g := (mkF m 51 #[.val (.ref a1), .val (.int (own_sh6 iv)), .val .null, .val (.int i), s4, s5] [(.ref cT), (.int i)])) rfl rfl (hb hby d42_51) t k) ?_
    rw [len_of As32 An32]
    show OwnEnds _ _ _ _ _ _ _ (T31.setTop (mkF m 52 #[.val (.ref a1), .val (.int (own_sh6 iv)), .val .null, .val (.int i), s4, s5] [(.int (own_L n)), (.int i)]))
    refine ogo (fun t k => XS.icmpYes X31.here hx rfl (pc0 := 52) (pc' := 109) rfl (hb hby d42_52) rfl (flt (fun q => by rw [Int32.lt_iff_toInt_lt] at q; omega)).2.1 (by decide) (by decide) k) ?_
    show OwnEnds _ _ _ _ _ _ _ (T31.setTop (mkF m 109 #[.val (.ref a1), .val (.int (own_sh6 iv)), .val .null, .val (.int i), s4, s5] []))
    refine ogo (fun t k => XS.aloadN X31.here hx rfl (hb hby d42_109) rfl rfl k) ?_
    show OwnEnds _ _ _ _ _ _ _ (T31.setTop (mkF m 110 #[.val (.ref a1), .val (.int (own_sh6 iv)), .val .null, .val (.int i), s4, s5] [(.ref a1)]))
    refine ogo (fun t k => XS.aconstNull X31.here hx rfl (hb hby d42_110) k) ?_
    show OwnEnds _ _ _ _ _ _ _ (T31.setTop (mkF m 111 #[.val (.ref a1), .val (.int (own_sh6 iv)), .val .null, .val (.int i), s4, s5] [.null, (.ref a1)]))
    obtain ⟨T33, h33, X33, e33, W33, st33⟩ := putF X31 hx hZ hown (host := "") (Or.inl (hw _ (List.mem_of_getElem? (i := 18) rfl))) Via.refl e31 F_p E_1 (Or.inl (hw _ (List.mem_of_getElem? (i := 19) rfl))) (hw _ (List.mem_of_getElem? (i := 6) rfl)) (ty := (.array (.array .int))) (by decide) rfl rfl (g := (mkF m 111 #[.val (.ref a1), .val (.int (own_sh6 iv)), .val .null, .val (.int i), s4, s5] [.null, (.ref a1)])) rfl rfl (hb hby d42_111)
    have nx34 : cT ≠ a1 := (Av.neObj ⟨_, V_c⟩ E_1 (hw _ (List.mem_of_getElem? (i := 6) rfl)))
    have nx35 : b ≠ a1 := (Ne.symm ne_a)
    have f36 := E_1.wr W33
    have f37 := F_n.other W33 (Or.inr (slot_ne (Or.inr (hw _ (List.mem_of_getElem? (i := 15) rfl))) (Or.inl (hw _ (List.mem_of_getElem? (i := 19) rfl))) (by decide) (t := .int) (t' := (.array (.array .int))) (by decide) (by decide)))
    have f38 := F_a.other W33 (Or.inr (slot_ne (Or.inl (hw _ (List.mem_of_getElem? (i := 26) rfl))) (Or.inl (hw _ (List.mem_of_getElem? (i := 19) rfl))) (by decide) (t := (.array .int)) (t' := (.array (.array .int))) (by decide) (by decide)))
    have f39 := F_p.same W33
    have f40 := V_c.other W33 nx34
    have f41 := V_b.other W33 nx35
    have P42 := PP0.other W33 (PP0.neObj E_1 (hw _ (List.mem_of_getElem? (i := 6) rfl)))
    have N43 := Fr.snoc X33 N0 g1
    have OLD43 := OLD0.wr W33 g1
    have Z43 := Nat.le_trans Z0 (Nat.le_of_eq W33.size.symm)
    refine ogo st33 ?_
    show OwnEnds _ _ _ _ _ _ _ (T33.setTop (mkF m 114 #[.val (.ref a1), .val (.int (own_sh6 iv)), .val .null, .val (.int i), s4, s5] []))
    refine ogo (fun t k => XS.goto X33.here hx rfl (pc0 := 114) (pc' := 143) rfl (hb hby d42_114) (by decide) (by decide) k) ?_
    show OwnEnds _ _ _ _ _ _ _ (T33.setTop (mkF m 143 #[.val (.ref a1), .val (.int (own_sh6 iv)), .val .null, .val (.int i), s4, s5] []))
    refine ogo (fun t k => XS.aloadN X33.here hx rfl (hb hby d42_143) rfl rfl k) ?_
    show OwnEnds _ _ _ _ _ _ _ (T33.setTop (mkF m 144 #[.val (.ref a1), .val (.int (own_sh6 iv)), .val .null, .val (.int i), s4, s5] [.null]))
    refine endA X33 hx hlk hret rfl rfl (hb hby d42_144) (by decide) (by decide) ?_
    show Q42 Z a1 iv n f pf cT mu kT h0 n0 _ T33.heap _
    rw [e33]
    have Vf := f41
    rw [show i.toInt.toNat = (own_L n).toInt.toNat by omega, part_all hn] at Vf
    exact ⟨N43, OLD43, Z43, Or.inr ⟨rfl, ⟨g1, f36, f37⟩, b, q_b, f38, ⟨_, Vf⟩⟩⟩
  | succ kk ih =>
    intro T0 hh locs i s4 s5 hs4 hs5 hi0 hik X0 e0 N0 OLD0 Z0 E_1 F_n F_a F_p V_c V_b PP0
    have hlt : i.toInt < (own_L n).toInt := by omega
    have hi1 := own_i1 hn hi0 hlt
    show OwnEnds _ _ _ _ _ _ _ (T0.setTop (mkF m 46 #[.val (.ref a1), .val (.int (own_sh6 iv)), .val .null, .val (.int i), s4, s5] []))
    refine ogo (fun t k => XS.iloadN X0.here hx rfl (hb hby d42_46) rfl k) ?_
    show OwnEnds _ _ _ _ _ _ _ (T0.setTop (mkF m 47 #[.val (.ref a1), .val (.int (own_sh6 iv)), .val .null, .val (.int i), s4, s5] [(.int i)]))
    refine ogo (fun t k => XS.aloadN X0.here hx rfl (hb hby d42_47) rfl rfl k) ?_
    show OwnEnds _ _ _ _ _ _ _ (T0.setTop (mkF m 48 #[.val (.ref a1), .val (.int (own_sh6 iv)), .val .null, .val (.int i), s4, s5] [(.ref a1), (.int i)]))
    obtain ⟨T44, X44, e44, st44⟩ := getF X0 hx hZ hown (host := "") (Or.inl (hw _ (List.mem_of_getElem? (i := 18) rfl))) Via.refl e0 F_p (g := (mkF m 48 #[.val (.ref a1), .val (.int (own_sh6 iv)), .val .null, .val (.int i), s4, s5] [(.ref a1), (.int i)])) rfl rfl (hb hby d42_48)
    refine ogo st44 ?_
    show OwnEnds _ _ _ _ _ _ _ (T44.setTop (mkF m 51 #[.val (.ref a1), .val (.int (own_sh6 iv)), .val .null, .val (.int i), s4, s5] [(.ref cT), (.int i)]))
    obtain ⟨cl45, Ar45, Aq45, As45, An45, Ah45, Ag45⟩ := id V_c
    refine ogo (fun t k => X44.arraylength hx (by rw [e44]; exact Ar45.1) (State.isArrayOf_alike hZ.alike Ar45.2.1) (g := (mkF m 51 #[.val (.ref a1), .val (.int (own_sh6 iv)), .val .null, .val (.int i), s4, s5] [(.ref cT), (.int i)])) rfl rfl (hb hby d42_51) t k) ?_
    rw [len_of As45 An45]
    show OwnEnds _ _ _ _ _ _ _ (T44.setTop (mkF m 52 #[.val (.ref a1), .val (.int (own_sh6 iv)), .val .null, .val (.int i), s4, s5] [(.int (own_L n)), (.int i)]))
    refine ogo (fun t k => XS.icmpNo X44.here hx rfl (hb hby d42_52) rfl (tlt (Int32.lt_iff_toInt_lt.mpr hlt)).2.1 k) ?_
    show OwnEnds _ _ _ _ _ _ _ (T44.setTop (mkF m 55 #[.val (.ref a1), .val (.int (own_sh6 iv)), .val .null, .val (.int i), s4, s5] []))
    refine ogo (fun t k => XS.aloadN X44.here hx rfl (hb hby d42_55) rfl rfl k) ?_
    show OwnEnds _ _ _ _ _ _ _ (T44.setTop (mkF m 56 #[.val (.ref a1), .val (.int (own_sh6 iv)), .val .null, .val (.int i), s4, s5] [(.ref a1)]))
    obtain ⟨T46, X46, e46, st46⟩ := getF X44 hx hZ hown (host := "") (Or.inl (hw _ (List.mem_of_getElem? (i := 18) rfl))) Via.refl e44 F_p (g := (mkF m 56 #[.val (.ref a1), .val (.int (own_sh6 iv)), .val .null, .val (.int i), s4, s5] [(.ref a1)])) rfl rfl (hb hby d42_56)
    refine ogo st46 ?_
    show OwnEnds _ _ _ _ _ _ _ (T46.setTop (mkF m 59 #[.val (.ref a1), .val (.int (own_sh6 iv)), .val .null, .val (.int i), s4, s5] [(.ref cT)]))
    refine ogo (fun t k => XS.iloadN X46.here hx rfl (hb hby d42_59) rfl k) ?_
    show OwnEnds _ _ _ _ _ _ _ (T46.setTop (mkF m 60 #[.val (.ref a1), .val (.int (own_sh6 iv)), .val .null, .val (.int i), s4, s5] [(.int i), (.ref cT)]))
    obtain ⟨cl47, Ar47, Aq47, As47, An47, Ah47, Ag47⟩ := id V_c
    rcases PP0 _ (own_li hn hi0 hlt).2.2 with ⟨e0t, z0t⟩ | ⟨p, e0t, g0t, V0t⟩
    · refine ogo (fun t k => X46.aaload hx (j := i) (v := .null) (by rw [e46]; exact Ar47.1) (State.isArrayOf_alike hZ.alike Ar47.2.1) rfl Ar47.2.2 (inb_of As47 (own_li hn hi0 hlt).1) (Ah47.at (inb_of As47 (own_li hn hi0 hlt).1) ((congrArg (fun t => (lstV pf (own_L n).toNatClampNeg).getD t .null) (own_li hn hi0 hlt).2.1).trans ((lstV_at (own_li hn hi0 hlt).2.2).trans e0t))) (g := (mkF m 60 #[.val (.ref a1), .val (.int (own_sh6 iv)), .val .null, .val (.int i), s4, s5] [(.int i), (.ref cT)])) rfl rfl (hb hby d42_60) t k) ?_
      show OwnEnds _ _ _ _ _ _ _ (T46.setTop (mkF m 61 #[.val (.ref a1), .val (.int (own_sh6 iv)), .val .null, .val (.int i), s4, s5] [.null]))
      refine ogo (fun t k => XS.ifnullYes X46.here hx rfl (pc0 := 61) (pc' := 103) rfl (hb hby d42_61) rfl (by decide) (by decide) k) ?_
      show OwnEnds _ _ _ _ _ _ _ (T46.setTop (mkF m 103 #[.val (.ref a1), .val (.int (own_sh6 iv)), .val .null, .val (.int i), s4, s5] []))
      refine ogo (fun t k => XS.iinc X46.here hx rfl (hb hby d42_103) rfl (l' := #[.val (.ref a1), .val (.int (own_sh6 iv)), .val .null, .val (.int (i + (1 : Int32))), s4, s5]) rfl k) ?_
      show OwnEnds _ _ _ _ _ _ _ (T46.setTop (mkF m 106 #[.val (.ref a1), .val (.int (own_sh6 iv)), .val .null, .val (.int (i + (1 : Int32))), s4, s5] []))
      refine ogo (fun t k => XS.goto X46.here hx rfl (pc0 := 106) (pc' := 46) rfl (hb hby d42_106) (by decide) (by decide) k) ?_
      exact ih T46 hh _ (i + 1) (s4) (s5) hs4 hs5 (by rw [hi1]; omega) (by rw [hi1]; omega) X46 e46 N0 OLD0 Z0 E_1 F_n F_a F_p V_c (by rw [hi1, show (i.toInt + 1).toNat = i.toInt.toNat + 1 by omega, ← part_null z0t]; exact V_b) PP0
    · refine ogo (fun t k => X46.aaload hx (j := i) (v := (.ref p)) (by rw [e46]; exact Ar47.1) (State.isArrayOf_alike hZ.alike Ar47.2.1) rfl Ar47.2.2 (inb_of As47 (own_li hn hi0 hlt).1) (Ah47.at (inb_of As47 (own_li hn hi0 hlt).1) ((congrArg (fun t => (lstV pf (own_L n).toNatClampNeg).getD t .null) (own_li hn hi0 hlt).2.1).trans ((lstV_at (own_li hn hi0 hlt).2.2).trans e0t))) (g := (mkF m 60 #[.val (.ref a1), .val (.int (own_sh6 iv)), .val .null, .val (.int i), s4, s5] [(.int i), (.ref cT)])) rfl rfl (hb hby d42_60) t k) ?_
      show OwnEnds _ _ _ _ _ _ _ (T46.setTop (mkF m 61 #[.val (.ref a1), .val (.int (own_sh6 iv)), .val .null, .val (.int i), s4, s5] [(.ref p)]))
      refine ogo (fun t k => XS.ifnullNo X46.here hx rfl (hb hby d42_61) rfl k) ?_
      show OwnEnds _ _ _ _ _ _ _ (T46.setTop (mkF m 64 #[.val (.ref a1), .val (.int (own_sh6 iv)), .val .null, .val (.int i), s4, s5] []))
      refine ogo (fun t k => XS.iloadN X46.here hx rfl (hb hby d42_64) rfl k) ?_
      show OwnEnds _ _ _ _ _ _ _ (T46.setTop (mkF m 65 #[.val (.ref a1), .val (.int (own_sh6 iv)), .val .null, .val (.int i), s4, s5] [(.int i)]))
      refine ogo (fun t k => XS.bipush X46.here hx rfl (hb hby d42_65) k) ?_
      show OwnEnds _ _ _ _ _ _ _ (T46.setTop (mkF m 67 #[.val (.ref a1), .val (.int (own_sh6 iv)), .val .null, .val (.int i), s4, s5] [(.int (6 : Int32)), (.int i)]))
      refine ogo (fun t k => XS.ishl X46.here hx rfl (hb hby d42_67) rfl k) ?_
      show OwnEnds _ _ _ _ _ _ _ (T46.setTop (mkF m 68 #[.val (.ref a1), .val (.int (own_sh6 iv)), .val .null, .val (.int i), s4, s5] [(.int (i <<< ((6 : Int32) &&& 31)))]))
      refine ogo (fun t k => XS.istore X46.here hx rfl (hb hby d42_68) rfl (l' := #[.val (.ref a1), .val (.int (own_sh6 iv)), .val .null, .val (.int i), .val (.int (i <<< ((6 : Int32) &&& 31))), s5]) (by rcases hs4 with rfl | ⟨z, rfl⟩ <;> rfl) k) ?_
      show OwnEnds _ _ _ _ _ _ _ (T46.setTop (mkF m 70 #[.val (.ref a1), .val (.int (own_sh6 iv)), .val .null, .val (.int i), .val (.int (i <<< ((6 : Int32) &&& 31))), s5] []))
      refine ogo (fun t k => XS.bipush X46.here hx rfl (hb hby d42_70) k) ?_
      show OwnEnds _ _ _ _ _ _ _ (T46.setTop (mkF m 72 #[.val (.ref a1), .val (.int (own_sh6 iv)), .val .null, .val (.int i), .val (.int (i <<< ((6 : Int32) &&& 31))), s5] [(.int (64 : Int32))]))
      refine ogo (fun t k => XS.aloadN X46.here hx rfl (hb hby d42_72) rfl rfl k) ?_
      show OwnEnds _ _ _ _ _ _ _ (T46.setTop (mkF m 73 #[.val (.ref a1), .val (.int (own_sh6 iv)), .val .null, .val (.int i), .val (.int (i <<< ((6 : Int32) &&& 31))), s5] [(.ref a1), (.int (64 : Int32))]))
      obtain ⟨T49, X49, e49, st49⟩ := getF X46 hx hZ hown (host := "") (Or.inl (hw _ (List.mem_of_getElem? (i := 25) rfl))) Via.refl e46 F_a (g := (mkF m 73 #[.val (.ref a1), .val (.int (own_sh6 iv)), .val .null, .val (.int i), .val (.int (i <<< ((6 : Int32) &&& 31))), s5] [(.ref a1), (.int (64 : Int32))])) rfl rfl (hb hby d42_73)
      refine ogo st49 ?_
      show OwnEnds _ _ _ _ _ _ _ (T49.setTop (mkF m 76 #[.val (.ref a1), .val (.int (own_sh6 iv)), .val .null, .val (.int i), .val (.int (i <<< ((6 : Int32) &&& 31))), s5] [(.ref b), (.int (64 : Int32))]))
      obtain ⟨cl50, Ar50, Aq50, As50, An50, Ah50, Ag50⟩ := id V_b
      refine ogo (fun t k => X49.arraylength hx (by rw [e49]; exact Ar50.1) (State.isArrayOf_alike hZ.alike Ar50.2.1) (g := (mkF m 76 #[.val (.ref a1), .val (.int (own_sh6 iv)), .val .null, .val (.int i), .val (.int (i <<< ((6 : Int32) &&& 31))), s5] [(.ref b), (.int (64 : Int32))])) rfl rfl (hb hby d42_76) t k) ?_
      rw [len_of As50 An50]
      show OwnEnds _ _ _ _ _ _ _ (T49.setTop (mkF m 77 #[.val (.ref a1), .val (.int (own_sh6 iv)), .val .null, .val (.int i), .val (.int (i <<< ((6 : Int32) &&& 31))), s5] [(.int (n + 1)), (.int (64 : Int32))]))
      refine ogo (fun t k => XS.iload X49.here hx rfl (hb hby d42_77) rfl k) ?_
      show OwnEnds _ _ _ _ _ _ _ (T49.setTop (mkF m 79 #[.val (.ref a1), .val (.int (own_sh6 iv)), .val .null, .val (.int i), .val (.int (i <<< ((6 : Int32) &&& 31))), s5] [(.int (i <<< ((6 : Int32) &&& 31))), (.int (n + 1)), (.int (64 : Int32))]))
      refine ogo (fun t k => XS.isub X49.here hx rfl (hb hby d42_79) rfl k) ?_
      show OwnEnds _ _ _ _ _ _ _ (T49.setTop (mkF m 80 #[.val (.ref a1), .val (.int (own_sh6 iv)), .val .null, .val (.int i), .val (.int (i <<< ((6 : Int32) &&& 31))), s5] [(.int ((n + 1) - (i <<< ((6 : Int32) &&& 31)))), (.int (64 : Int32))]))
      obtain ⟨v51, _, ⟨T51, L51, k51, n51⟩, -, X51, ⟨Lc51, hQ51, l51, y51, z51⟩, st51⟩ := Jvm.LawKit.callS X49 hx (y := (⟨"java/lang/Math", "min", "(II)I"⟩ : MethodName)) hown (mvT hZ (hw _ (List.mem_of_getElem? (i := 44) rfl))) (mvT hZ (hw _ (List.mem_of_getElem? (i := 45) rfl))) (mvT hZ (hw _ (List.mem_of_getElem? (i := 46) rfl))) (mvT hZ (hw _ (List.mem_of_getElem? (i := 47) rfl))) (by decide) (backOf (W := 0) (rm3 l Z a0 hw [] (64 : Int32) ((n + 1) - (i <<< ((6 : Int32) &&& 31))) hh n0 Z0 ) hZ (hw _ (List.mem_of_getElem? (i := 47) rfl)) (hw _ (List.mem_of_getElem? (i := 46) rfl)) (by decide) (by decide)) (g := (mkF m 80 #[.val (.ref a1), .val (.int (own_sh6 iv)), .val .null, .val (.int i), .val (.int (i <<< ((6 : Int32) &&& 31))), s5] [(.int ((n + 1) - (i <<< ((6 : Int32) &&& 31)))), (.int (64 : Int32))])) rfl (by rw [hml]; rfl) (argsL := [(.int (64 : Int32)), (.int ((n + 1) - (i <<< ((6 : Int32) &&& 31))))]) (rest := []) (lenOf pd__II_I rfl) rfl (by show 2 * 0 + _ ≤ _; exact Nat.le_of_eq rfl) (hb hby d42_80) (fun _ _ => ⟨rfl, e49, (by decide : 1 + 0 ≤ _), (by decide : 704 + 0 ≤ _)⟩)
      dsimp only [Pt.U, Pt.locs, Pt.cells, Pt.slots] at X51 l51 y51 z51 st51 hQ51
      subst l51 y51 z51
      obtain ⟨rfl, N51q, e51⟩ := hQ51
      have N51 := Fr.app N0 N51q
      refine ogo (fun t k => st51 t k) ?_
      show OwnEnds _ _ _ _ _ _ _ (T51.setTop (mkF m 83 #[.val (.ref a1), .val (.int (own_sh6 iv)), .val .null, .val (.int i), .val (.int (i <<< ((6 : Int32) &&& 31))), s5] [(.int (own_min (64 : Int32) ((n + 1) - (i <<< ((6 : Int32) &&& 31)))))]))
      refine ogo (fun t k => XS.istore X51.here hx rfl (hb hby d42_83) rfl (l' := #[.val (.ref a1), .val (.int (own_sh6 iv)), .val .null, .val (.int i), .val (.int (i <<< ((6 : Int32) &&& 31))), .val (.int (own_min (64 : Int32) ((n + 1) - (i <<< ((6 : Int32) &&& 31)))))]) (by rcases hs5 with rfl | ⟨z, rfl⟩ <;> rfl) k) ?_
      show OwnEnds _ _ _ _ _ _ _ (T51.setTop (mkF m 85 #[.val (.ref a1), .val (.int (own_sh6 iv)), .val .null, .val (.int i), .val (.int (i <<< ((6 : Int32) &&& 31))), .val (.int (own_min (64 : Int32) ((n + 1) - (i <<< ((6 : Int32) &&& 31)))))] []))
      refine ogo (fun t k => XS.aloadN X51.here hx rfl (hb hby d42_85) rfl rfl k) ?_
      show OwnEnds _ _ _ _ _ _ _ (T51.setTop (mkF m 86 #[.val (.ref a1), .val (.int (own_sh6 iv)), .val .null, .val (.int i), .val (.int (i <<< ((6 : Int32) &&& 31))), .val (.int (own_min (64 : Int32) ((n + 1) - (i <<< ((6 : Int32) &&& 31)))))] [(.ref a1)]))
      obtain ⟨T52, X52, e52, st52⟩ := getF X51 hx hZ hown (host := "") (Or.inl (hw _ (List.mem_of_getElem? (i := 18) rfl))) Via.refl e51 F_p (g := (mkF m 86 #[.val (.ref a1), .val (.int (own_sh6 iv)), .val .null, .val (.int i), .val (.int (i <<< ((6 : Int32) &&& 31))), .val (.int (own_min (64 : Int32) ((n + 1) - (i <<< ((6 : Int32) &&& 31)))))] [(.ref a1)])) rfl rfl (hb hby d42_86)
      refine ogo st52 ?_
      show OwnEnds _ _ _ _ _ _ _ (T52.setTop (mkF m 89 #[.val (.ref a1), .val (.int (own_sh6 iv)), .val .null, .val (.int i), .val (.int (i <<< ((6 : Int32) &&& 31))), .val (.int (own_min (64 : Int32) ((n + 1) - (i <<< ((6 : Int32) &&& 31)))))] [(.ref cT)]))
      refine ogo (fun t k => XS.iloadN X52.here hx rfl (hb hby d42_89) rfl k) ?_
      show OwnEnds _ _ _ _ _ _ _ (T52.setTop (mkF m 90 #[.val (.ref a1), .val (.int (own_sh6 iv)), .val .null, .val (.int i), .val (.int (i <<< ((6 : Int32) &&& 31))), .val (.int (own_min (64 : Int32) ((n + 1) - (i <<< ((6 : Int32) &&& 31)))))] [(.int i), (.ref cT)]))
      obtain ⟨cl53, Ar53, Aq53, As53, An53, Ah53, Ag53⟩ := id V_c
      refine ogo (fun t k => X52.aaload hx (j := i) (v := (.ref p)) (by rw [e52]; exact Ar53.1) (State.isArrayOf_alike hZ.alike Ar53.2.1) rfl Ar53.2.2 (inb_of As53 (own_li hn hi0 hlt).1) (Ah53.at (inb_of As53 (own_li hn hi0 hlt).1) ((congrArg (fun t => (lstV pf (own_L n).toNatClampNeg).getD t .null) (own_li hn hi0 hlt).2.1).trans ((lstV_at (own_li hn hi0 hlt).2.2).trans e0t))) (g := (mkF m 90 #[.val (.ref a1), .val (.int (own_sh6 iv)), .val .null, .val (.int i), .val (.int (i <<< ((6 : Int32) &&& 31))), .val (.int (own_min (64 : Int32) ((n + 1) - (i <<< ((6 : Int32) &&& 31)))))] [(.int i), (.ref cT)])) rfl rfl (hb hby d42_90) t k) ?_
      show OwnEnds _ _ _ _ _ _ _ (T52.setTop (mkF m 91 #[.val (.ref a1), .val (.int (own_sh6 iv)), .val .null, .val (.int i), .val (.int (i <<< ((6 : Int32) &&& 31))), .val (.int (own_min (64 : Int32) ((n + 1) - (i <<< ((6 : Int32) &&& 31)))))] [(.ref p)]))
      refine ogo (fun t k => XS.iconst X52.here hx rfl (hb hby d42_91) k) ?_
      show OwnEnds _ _ _ _ _ _ _ (T52.setTop (mkF m 92 #[.val (.ref a1), .val (.int (own_sh6 iv)), .val .null, .val (.int i), .val (.int (i <<< ((6 : Int32) &&& 31))), .val (.int (own_min (64 : Int32) ((n + 1) - (i <<< ((6 : Int32) &&& 31)))))] [(.int (0 : Int32)), (.ref p)]))
      refine ogo (fun t k => XS.aloadN X52.here hx rfl (hb hby d42_92) rfl rfl k) ?_
      show OwnEnds _ _ _ _ _ _ _ (T52.setTop (mkF m 93 #[.val (.ref a1), .val (.int (own_sh6 iv)), .val .null, .val (.int i), .val (.int (i <<< ((6 : Int32) &&& 31))), .val (.int (own_min (64 : Int32) ((n + 1) - (i <<< ((6 : Int32) &&& 31)))))] [(.ref a1), (.int (0 : Int32)), (.ref p)]))
      obtain ⟨T55, X55, e55, st55⟩ := getF X52 hx hZ hown (host := "") (Or.inl (hw _ (List.mem_of_getElem? (i := 25) rfl))) Via.refl e52 F_a (g := (mkF m 93 #[.val (.ref a1), .val (.int (own_sh6 iv)), .val .null, .val (.int i), .val (.int (i <<< ((6 : Int32) &&& 31))), .val (.int (own_min (64 : Int32) ((n + 1) - (i <<< ((6 : Int32) &&& 31)))))] [(.ref a1), (.int (0 : Int32)), (.ref p)])) rfl rfl (hb hby d42_93)
      refine ogo st55 ?_
      show OwnEnds _ _ _ _ _ _ _ (T55.setTop (mkF m 96 #[.val (.ref a1), .val (.int (own_sh6 iv)), .val .null, .val (.int i), .val (.int (i <<< ((6 : Int32) &&& 31))), .val (.int (own_min (64 : Int32) ((n + 1) - (i <<< ((6 : Int32) &&& 31)))))] [(.ref b), (.int (0 : Int32)), (.ref p)]))
      refine ogo (fun t k => XS.iload X55.here hx rfl (hb hby d42_96) rfl k) ?_
      show OwnEnds _ _ _ _ _ _ _ (T55.setTop (mkF m 98 #[.val (.ref a1), .val (.int (own_sh6 iv)), .val .null, .val (.int i), .val (.int (i <<< ((6 : Int32) &&& 31))), .val (.int (own_min (64 : Int32) ((n + 1) - (i <<< ((6 : Int32) &&& 31)))))] [(.int (i <<< ((6 : Int32) &&& 31))), (.ref b), (.int (0 : Int32)), (.ref p)]))
      refine ogo (fun t k => XS.iload X55.here hx rfl (hb hby d42_98) rfl k) ?_
      show OwnEnds _ _ _ _ _ _ _ (T55.setTop (mkF m 100 #[.val (.ref a1), .val (.int (own_sh6 iv)), .val .null, .val (.int i), .val (.int (i <<< ((6 : Int32) &&& 31))), .val (.int (own_min (64 : Int32) ((n + 1) - (i <<< ((6 : Int32) &&& 31)))))] [(.int (own_min (64 : Int32) ((n + 1) - (i <<< ((6 : Int32) &&& 31))))), (.int (i <<< ((6 : Int32) &&& 31))), (.ref b), (.int (0 : Int32)), (.ref p)]))
      have hcp := own_cp hn hi0 hlt
      obtain ⟨kp56, Vs56⟩ := id V0t
      obtain ⟨T56, h56, L56, X56, e56, N56, K56, Vb56, st56⟩ := cpA X55 hx hZ hown (hw _ (List.mem_of_getElem? (i := 48) rfl)) (hw _ (List.mem_of_getElem? (i := 51) rfl)) (hw _ (List.mem_of_getElem? (i := 49) rfl)) (hw _ (List.mem_of_getElem? (i := 50) rfl)) e55 Vs56 V_b (Or.inl ⟨rfl, rfl⟩) (sp := (0 : Int32)) (dp := (i <<< ((6 : Int32) &&& 31))) (nn := (own_min (64 : Int32) ((n + 1) - (i <<< ((6 : Int32) &&& 31))))) (by decide) hcp.1 hcp.2.1 (by show 0 + _ ≤ 64; rw [Nat.zero_add]; exact hcp.2.2.2.1) (by rw [hcp.2.2.1]; exact hcp.2.2.2.2.1) rfl (by rw [lst_len, hcp.2.2.1]; exact hcp.2.2.2.2.1) N51 q_b (g := (mkF m 100 #[.val (.ref a1), .val (.int (own_sh6 iv)), .val .null, .val (.int i), .val (.int (i <<< ((6 : Int32) &&& 31))), .val (.int (own_min (64 : Int32) ((n + 1) - (i <<< ((6 : Int32) &&& 31)))))] [(.int (own_min (64 : Int32) ((n + 1) - (i <<< ((6 : Int32) &&& 31))))), (.int (i <<< ((6 : Int32) &&& 31))), (.ref b), (.int (0 : Int32)), (.ref p)])) rfl (by rw [hml]; rfl) rfl (hb hby d42_100) (by decide) (W := 0) (by show 2 * 0 + _ ≤ _; exact Nat.le_of_eq rfl) (by decide)
      have Vn56 : Arv Z h56 b kb .int (n + 1) (lst (own_part f (i.toInt.toNat + 1)) (n + 1).toNatClampNeg) (.int (0 : Int32)) := by
        have q := part_copy (f := f) (i := i.toInt.toNat) (N := (n + 1).toNatClampNeg) hcp.2.2.1 hcp.2.2.2.1 (by rw [hcp.2.2.1]; exact hcp.2.2.2.2.1) (by rw [hcp.2.2.1]; exact hcp.2.2.2.2.2)
        rw [← q]
        exact Vb56
      have f57 := E_1.keep K56
      have f58 := F_n.keep K56 (ninS ne_a nin0)
      have f59 := F_a.keep K56 (ninS ne_a nin0)
      have f60 := F_p.keep K56 (ninS ne_a nin0)
      have f61 := V_c.keep K56 (ninS ne_c nin0)
      have P62 := PP0.keep K56 (fun i p hi e => ninS (pn_b i p hi e) nin0)
      have OLD56 := own_okp OLD0 K56 q_b
      have Z56 := Nat.le_trans Z0 K56.1
      refine ogo st56 ?_
      show OwnEnds _ _ _ _ _ _ _ (T56.setTop (mkF m 103 #[.val (.ref a1), .val (.int (own_sh6 iv)), .val .null, .val (.int i), .val (.int (i <<< ((6 : Int32) &&& 31))), .val (.int (own_min (64 : Int32) ((n + 1) - (i <<< ((6 : Int32) &&& 31)))))] []))
      refine ogo (fun t k => XS.iinc X56.here hx rfl (hb hby d42_103) rfl (l' := #[.val (.ref a1), .val (.int (own_sh6 iv)), .val .null, .val (.int (i + (1 : Int32))), .val (.int (i <<< ((6 : Int32) &&& 31))), .val (.int (own_min (64 : Int32) ((n + 1) - (i <<< ((6 : Int32) &&& 31)))))]) rfl k) ?_
      show OwnEnds _ _ _ _ _ _ _ (T56.setTop (mkF m 106 #[.val (.ref a1), .val (.int (own_sh6 iv)), .val .null, .val (.int (i + (1 : Int32))), .val (.int (i <<< ((6 : Int32) &&& 31))), .val (.int (own_min (64 : Int32) ((n + 1) - (i <<< ((6 : Int32) &&& 31)))))] []))
      refine ogo (fun t k => XS.goto X56.here hx rfl (pc0 := 106) (pc' := 46) rfl (hb hby d42_106) (by decide) (by decide) k) ?_
      exact ih T56 h56 _ (i + 1) (.val (.int (i <<< ((6 : Int32) &&& 31)))) (.val (.int (own_min (64 : Int32) ((n + 1) - (i <<< ((6 : Int32) &&& 31)))))) (Or.inr ⟨_, rfl⟩) (Or.inr ⟨_, rfl⟩) (by rw [hi1]; omega) (by rw [hi1]; omega) X56 e56 N56 OLD56 Z56 f57 f58 f59 f60 f61 (by rw [hi1, show (i.toInt + 1).toNat = i.toInt.toNat + 1 by omega]; exact Vn56) P62
set_option maxRecDepth 65536 in
set_option maxHeartbeats 40000000 in
theorem rm42 (l : Launch) (Z : State) (a0 : Array Value) (hw : ∀ d ∈ tables_1, d.before a0 Z = true) (ws : List Jvm.Cond) (a1 : Addr) (iv n : Int32) (f : Nat → Int32) (pf : Nat → Value) (cT : Addr) (mu : Int32) (kT : ClassId) (h0 : Heap) (n0 : Nat) (Z0 : n0 ≤ h0.size) (OLD : Old Z n0 h0) (g1 : n0 ≤ a1) (E_1 : Exa Z h0 a1 "com/example/dispatchwave/dispatchwave/model/VertexLabels") (F_n : Fld Z h0 a1 "com/example/dispatchwave/dispatchwave/model/VertexLabels" "vertexCount" "I" (.int n)) (F_a : Fld Z h0 a1 "com/example/dispatchwave/dispatchwave/model/VertexLabels" "array" "[I" .null) (gc : n0 ≤ cT) (F_p : Fld Z h0 a1 "com/example/dispatchwave/dispatchwave/model/VertexLabels" "pages" "[[I" (.ref cT)) (F_m : Fld Z h0 a1 "com/example/dispatchwave/dispatchwave/model/VertexLabels" "made" "I" (.int mu)) (hmu : 0 ≤ mu.toInt ∧ mu.toInt ≤ 2) (V_c : Arv Z h0 cT kT (.array .int) (own_L n) (lstV pf (own_L n).toNatClampNeg) .null) (O_c : OvrA Z kT .int "[I") (PPh : PP Z h0 n0 pf (own_L n).toNatClampNeg f) (PIh : PI pf (own_L n).toNatClampNeg) (hn : OkN n) (hp : InN n iv) :
    MetFree l (⟨"com/example/dispatchwave/dispatchwave/model/VertexLabels", "page", "(I)[I"⟩ : MethodName) (head1 (Jvm.Cond.code (⟨"com/example/dispatchwave/dispatchwave/model/VertexLabels", "page", "(I)[I"⟩ : MethodName) prog_32_method_4_code 6 (some (.array .int)) :: ws) ({ frames := 1, cells := 1, slots := 704, locals := 40 } : Room)) (fun a U => a = #[(.ref a1), (.int (own_sh6 iv))] ∧ Z.Warmed39 U.vm ∧ U.heap = h0) (fun _ _ _ _ _ => True) (fun _ U o U' => ∃ v L, o = .returned v ∧ Q42 Z a1 iv n f pf cT mu kT h0 n0 v U'.heap L ∧ FrameEnd U o U' L ({ frames := 1, cells := 1, slots := 704, locals := 40 } : Room).cells ({ frames := 1, cells := 1, slots := 704, locals := 40 } : Room).slots) := by
  refine MetFree.of_bodySF (plainFor_of_name pn_VertexLabels) hisR ?_
  intro p e s m args below meth c s₁ Bd hml0 hP hK
  obtain ⟨rfl, hZ, hh⟩ := hP
  have hx := Bd.exec
  have hby := Bd.bytes
  have hml : c.maxLocals = 6 := hml0
  have hown : s.vm.findClass "com/example/dispatchwave/dispatchwave/model/VertexLabels" = some m.cls := findClass_of_methodNamed Bd.named
  have hnm := (name_of_methodNamed Bd.named Bd.method).1
  have hlk : meth.locks = false := BodyLoose.notSynchronized Bd
  have hret := Bd.returns
  have X0 : Stand p l e ({ frames := 1, cells := 1, slots := 704, locals := 40 } : Room) s m #[(.ref a1), (.int (own_sh6 iv))] below meth c s₁ [] 0 0 := Stand.of_body Bd
  have e0 : s₁.heap = h0 := by rw [← hh, Bd.state]; rfl
  have N0 := Fr.nil n0
  refine ogo (U' := s₁.setTop (mkF m 0 #[.val (.ref a1), .val (.int (own_sh6 iv)), .unset, .unset, .unset, .unset] [])) (Q := Q42 Z a1 iv n f pf cT mu kT h0 n0) (K := ({ frames := 1, cells := 1, slots := 704, locals := 40 } : Room).cells) (N := ({ frames := 1, cells := 1, slots := 704, locals := 40 } : Room).slots) (fun t k => castTop (ef_42 m a1 (own_sh6 iv)) k) ?_
  show OwnEnds _ _ _ _ _ _ _ (s₁.setTop (mkF m 0 #[.val (.ref a1), .val (.int (own_sh6 iv)), .unset, .unset, .unset, .unset] []))
  refine ogo (fun t k => XS.aloadN X0.here hx rfl (hb hby d42_0) rfl rfl k) ?_
  show OwnEnds _ _ _ _ _ _ _ (s₁.setTop (mkF m 1 #[.val (.ref a1), .val (.int (own_sh6 iv)), .unset, .unset, .unset, .unset] [(.ref a1)]))
  obtain ⟨T1, X1, e1, st1⟩ := getF X0 hx hZ hown (host := "") (Or.inl (hw _ (List.mem_of_getElem? (i := 18) rfl))) Via.refl e0 F_p (g := (mkF m 1 #[.val (.ref a1), .val (.int (own_sh6 iv)), .unset, .unset, .unset, .unset] [(.ref a1)])) rfl rfl (hb hby d42_1)
  refine ogo st1 ?_
  show OwnEnds _ _ _ _ _ _ _ (T1.setTop (mkF m 4 #[.val (.ref a1), .val (.int (own_sh6 iv)), .unset, .unset, .unset, .unset] [(.ref cT)]))
  refine ogo (fun t k => XS.iloadN X1.here hx rfl (hb hby d42_4) rfl k) ?_
  show OwnEnds _ _ _ _ _ _ _ (T1.setTop (mkF m 5 #[.val (.ref a1), .val (.int (own_sh6 iv)), .unset, .unset, .unset, .unset] [(.int (own_sh6 iv)), (.ref cT)]))
  obtain ⟨cl2, Ar2, Aq2, As2, An2, Ah2, Ag2⟩ := id V_c
  rcases PPh _ (own_pi hn hp).2.2 with ⟨e0t, z0t⟩ | ⟨p, e0t, g0t, V0t⟩
  · refine ogo (fun t k => X1.aaload hx (j := (own_sh6 iv)) (v := .null) (by rw [e1]; exact Ar2.1) (State.isArrayOf_alike hZ.alike Ar2.2.1) rfl Ar2.2.2 (inb_of As2 (own_pi hn hp).1) (Ah2.at (inb_of As2 (own_pi hn hp).1) ((congrArg (fun t => (lstV pf (own_L n).toNatClampNeg).getD t .null) (own_pi hn hp).2.1).trans ((lstV_at (own_pi hn hp).2.2).trans e0t))) (g := (mkF m 5 #[.val (.ref a1), .val (.int (own_sh6 iv)), .unset, .unset, .unset, .unset] [(.int (own_sh6 iv)), (.ref cT)])) rfl rfl (hb hby d42_5) t k) ?_
    show OwnEnds _ _ _ _ _ _ _ (T1.setTop (mkF m 6 #[.val (.ref a1), .val (.int (own_sh6 iv)), .unset, .unset, .unset, .unset] [.null]))
    refine ogo (fun t k => XS.astoreN X1.here hx rfl (hb hby d42_6) rfl rfl (l' := #[.val (.ref a1), .val (.int (own_sh6 iv)), .val .null, .unset, .unset, .unset]) rfl k) ?_
    show OwnEnds _ _ _ _ _ _ _ (T1.setTop (mkF m 7 #[.val (.ref a1), .val (.int (own_sh6 iv)), .val .null, .unset, .unset, .unset] []))
    refine ogo (fun t k => XS.aloadN X1.here hx rfl (hb hby d42_7) rfl rfl k) ?_
    show OwnEnds _ _ _ _ _ _ _ (T1.setTop (mkF m 8 #[.val (.ref a1), .val (.int (own_sh6 iv)), .val .null, .unset, .unset, .unset] [.null]))
    refine ogo (fun t k => XS.ifnonnullNo X1.here hx rfl (hb hby d42_8) rfl k) ?_
    show OwnEnds _ _ _ _ _ _ _ (T1.setTop (mkF m 11 #[.val (.ref a1), .val (.int (own_sh6 iv)), .val .null, .unset, .unset, .unset] []))
    refine ogo (fun t k => X1.ldc2Long hx hown (mvT hZ (hw _ (List.mem_of_getElem? (i := 36) rfl))) (g := (mkF m 11 #[.val (.ref a1), .val (.int (own_sh6 iv)), .val .null, .unset, .unset, .unset] [])) rfl (hb hby d42_11) t k) ?_
    show OwnEnds _ _ _ _ _ _ _ (T1.setTop (mkF m 14 #[.val (.ref a1), .val (.int (own_sh6 iv)), .val .null, .unset, .unset, .unset] [(.long (4 : Int64))]))
    refine ogo (fun t k => XS.aloadN X1.here hx rfl (hb hby d42_14) rfl rfl k) ?_
    show OwnEnds _ _ _ _ _ _ _ (T1.setTop (mkF m 15 #[.val (.ref a1), .val (.int (own_sh6 iv)), .val .null, .unset, .unset, .unset] [(.ref a1), (.long (4 : Int64))]))
    obtain ⟨T4, X4, e4, st4⟩ := getF X1 hx hZ hown (host := "") (Or.inl (hw _ (List.mem_of_getElem? (i := 37) rfl))) Via.refl e1 F_m (g := (mkF m 15 #[.val (.ref a1), .val (.int (own_sh6 iv)), .val .null, .unset, .unset, .unset] [(.ref a1), (.long (4 : Int64))])) rfl rfl (hb hby d42_15)
    refine ogo st4 ?_
    show OwnEnds _ _ _ _ _ _ _ (T4.setTop (mkF m 18 #[.val (.ref a1), .val (.int (own_sh6 iv)), .val .null, .unset, .unset, .unset] [(.int mu), (.long (4 : Int64))]))
    refine ogo (fun t k => XS.iconst X4.here hx rfl (hb hby d42_18) k) ?_
    show OwnEnds _ _ _ _ _ _ _ (T4.setTop (mkF m 19 #[.val (.ref a1), .val (.int (own_sh6 iv)), .val .null, .unset, .unset, .unset] [(.int (1 : Int32)), (.int mu), (.long (4 : Int64))]))
    refine ogo (fun t k => XS.iadd X4.here hx rfl (hb hby d42_19) rfl k) ?_
    show OwnEnds _ _ _ _ _ _ _ (T4.setTop (mkF m 20 #[.val (.ref a1), .val (.int (own_sh6 iv)), .val .null, .unset, .unset, .unset] [(.int (mu + (1 : Int32))), (.long (4 : Int64))]))
    refine ogo (fun t k => XS.i2l X4.here hx rfl (hb hby d42_20) rfl k) ?_
    show OwnEnds _ _ _ _ _ _ _ (T4.setTop (mkF m 21 #[.val (.ref a1), .val (.int (own_sh6 iv)), .val .null, .unset, .unset, .unset] [(.long ((mu + (1 : Int32)).toInt64)), (.long (4 : Int64))]))
    refine ogo (fun t k => XS.lmul X4.here hx rfl (hb hby d42_21) rfl k) ?_
    show OwnEnds _ _ _ _ _ _ _ (T4.setTop (mkF m 22 #[.val (.ref a1), .val (.int (own_sh6 iv)), .val .null, .unset, .unset, .unset] [(.long ((4 : Int64) * ((mu + (1 : Int32)).toInt64)))]))
    refine ogo (fun t k => XS.aloadN X4.here hx rfl (hb hby d42_22) rfl rfl k) ?_
    show OwnEnds _ _ _ _ _ _ _ (T4.setTop (mkF m 23 #[.val (.ref a1), .val (.int (own_sh6 iv)), .val .null, .unset, .unset, .unset] [(.ref a1), (.long ((4 : Int64) * ((mu + (1 : Int32)).toInt64)))]))
    obtain ⟨T5, X5, e5, st5⟩ := getF X4 hx hZ hown (host := "") (Or.inl (hw _ (List.mem_of_getElem? (i := 18) rfl))) Via.refl e4 F_p (g := (mkF m 23 #[.val (.ref a1), .val (.int (own_sh6 iv)), .val .null, .unset, .unset, .unset] [(.ref a1), (.long ((4 : Int64) * ((mu + (1 : Int32)).toInt64)))])) rfl rfl (hb hby d42_23)
    refine ogo st5 ?_
    show OwnEnds _ _ _ _ _ _ _ (T5.setTop (mkF m 26 #[.val (.ref a1), .val (.int (own_sh6 iv)), .val .null, .unset, .unset, .unset] [(.ref cT), (.long ((4 : Int64) * ((mu + (1 : Int32)).toInt64)))]))
    obtain ⟨cl6, Ar6, Aq6, As6, An6, Ah6, Ag6⟩ := id V_c
    refine ogo (fun t k => X5.arraylength hx (by rw [e5]; exact Ar6.1) (State.isArrayOf_alike hZ.alike Ar6.2.1) (g := (mkF m 26 #[.val (.ref a1), .val (.int (own_sh6 iv)), .val .null, .unset, .unset, .unset] [(.ref cT), (.long ((4 : Int64) * ((mu + (1 : Int32)).toInt64)))])) rfl rfl (hb hby d42_26) t k) ?_
    rw [len_of As6 An6]
    show OwnEnds _ _ _ _ _ _ _ (T5.setTop (mkF m 27 #[.val (.ref a1), .val (.int (own_sh6 iv)), .val .null, .unset, .unset, .unset] [(.int (own_L n)), (.long ((4 : Int64) * ((mu + (1 : Int32)).toInt64)))]))
    refine ogo (fun t k => XS.i2l X5.here hx rfl (hb hby d42_27) rfl k) ?_
    show OwnEnds _ _ _ _ _ _ _ (T5.setTop (mkF m 28 #[.val (.ref a1), .val (.int (own_sh6 iv)), .val .null, .unset, .unset, .unset] [(.long ((own_L n).toInt64)), (.long ((4 : Int64) * ((mu + (1 : Int32)).toInt64)))]))
    refine ogo (fun t k => XS.lcmp X5.here hx rfl (hb hby d42_28) rfl k) ?_
    show OwnEnds _ _ _ _ _ _ _ (T5.setTop (mkF m 29 #[.val (.ref a1), .val (.int (own_sh6 iv)), .val .null, .unset, .unset, .unset] [(.int (lcmpW ((4 : Int64) * ((mu + (1 : Int32)).toInt64)) ((own_L n).toInt64)))]))
    by_cases hc7 : ((own_L n).toInt64) < ((4 : Int64) * ((mu + (1 : Int32)).toInt64))
    · refine ogo (fun t k => XS.ifNo X5.here hx rfl (hb hby d42_29) rfl ((if0 _ _).trans (tlt ((lw_gt ((4 : Int64) * ((mu + (1 : Int32)).toInt64)) ((own_L n).toInt64)).mpr hc7)).2.2.2) k) ?_
      show OwnEnds _ _ _ _ _ _ _ (T5.setTop (mkF m 32 #[.val (.ref a1), .val (.int (own_sh6 iv)), .val .null, .unset, .unset, .unset] []))
      refine ogo (fun t k => XS.aloadN X5.here hx rfl (hb hby d42_32) rfl rfl k) ?_
      show OwnEnds _ _ _ _ _ _ _ (T5.setTop (mkF m 33 #[.val (.ref a1), .val (.int (own_sh6 iv)), .val .null, .unset, .unset, .unset] [(.ref a1)]))
      refine ogo (fun t k => XS.aloadN X5.here hx rfl (hb hby d42_33) rfl rfl k) ?_
      show OwnEnds _ _ _ _ _ _ _ (T5.setTop (mkF m 34 #[.val (.ref a1), .val (.int (own_sh6 iv)), .val .null, .unset, .unset, .unset] [(.ref a1), (.ref a1)]))
      obtain ⟨T8, X8, e8, st8⟩ := getF X5 hx hZ hown (host := "") (Or.inl (hw _ (List.mem_of_getElem? (i := 14) rfl))) Via.refl e5 F_n (g := (mkF m 34 #[.val (.ref a1), .val (.int (own_sh6 iv)), .val .null, .unset, .unset, .unset] [(.ref a1), (.ref a1)])) rfl rfl (hb hby d42_34)
      refine ogo st8 ?_
      show OwnEnds _ _ _ _ _ _ _ (T8.setTop (mkF m 37 #[.val (.ref a1), .val (.int (own_sh6 iv)), .val .null, .unset, .unset, .unset] [(.int n), (.ref a1)]))
      refine ogo (fun t k => XS.iconst X8.here hx rfl (hb hby d42_37) k) ?_
      show OwnEnds _ _ _ _ _ _ _ (T8.setTop (mkF m 38 #[.val (.ref a1), .val (.int (own_sh6 iv)), .val .null, .unset, .unset, .unset] [(.int (1 : Int32)), (.int n), (.ref a1)]))
      refine ogo (fun t k => XS.iadd X8.here hx rfl (hb hby d42_38) rfl k) ?_
      show OwnEnds _ _ _ _ _ _ _ (T8.setTop (mkF m 39 #[.val (.ref a1), .val (.int (own_sh6 iv)), .val .null, .unset, .unset, .unset] [(.int (n + (1 : Int32))), (.ref a1)]))
      obtain ⟨T9, h9, k9, X9, e9, E9, A9, B9, st9⟩ := newPE X8 hx hZ (hw _ (List.mem_of_getElem? (i := 39) rfl)) e8 (g := (mkF m 39 #[.val (.ref a1), .val (.int (own_sh6 iv)), .val .null, .unset, .unset, .unset] [(.int (n + (1 : Int32))), (.ref a1)])) rfl (hb hby d42_39) (n := (n + 1)) rfl (own_n1nn hn) (cap := 704) (own_cap (M := 2) (by decide) hn hmu hc7) (by decide) (by decide) (by decide) (ad := "[I") (by decide)
      obtain ⟨b9, g9⟩ : ∃ z, z = h0.size := ⟨_, rfl⟩
      rw [← g9] at A9 B9 st9
      have ne_a1_b9 : a1 ≠ b9 := Nat.ne_of_lt (Nat.lt_of_lt_of_le (E_1).lt (Nat.le_of_eq g9.symm))
      have ne_cT_b9 : cT ≠ b9 := Nat.ne_of_lt (Nat.lt_of_lt_of_le (V_c).lt (Nat.le_of_eq g9.symm))
      have pn_b9 := PPh.ne_new g9
      have q_b9 : n0 ≤ b9 := Nat.le_trans Z0 (Nat.le_of_eq g9.symm)
      have f10 := E_1.ext E9
      have f11 := F_n.ext E9
      have f12 := F_a.ext E9
      have f13 := F_p.ext E9
      have f14 := F_m.ext E9
      have f15 := V_c.ext E9
      have P16 := PPh.ext E9
      have OLD17 := OLD.ext E9
      have Z17 := Nat.le_trans Z0 E9.1
      have V9 : Arv Z h9 b9 k9 .int (n + 1) (lst (fun _ => 0) ((n + 1)).toNatClampNeg) (.int (0 : Int32)) := by
        have q := (Arv.new A9 (own_n1nn hn)).pad (pad_rep [] (.int (0 : Int32)) ((n + 1)).toNatClampNeg)
        rw [List.nil_append, lst_rep] at q
        exact q
      refine ogo st9 ?_
      show OwnEnds _ _ _ _ _ _ _ (T9.setTop (mkF m 41 #[.val (.ref a1), .val (.int (own_sh6 iv)), .val .null, .unset, .unset, .unset] [(.ref b9), (.ref a1)]))
      obtain ⟨T18, h18, X18, e18, W18, st18⟩ := putF X9 hx hZ hown (host := "") (Or.inl (hw _ (List.mem_of_getElem? (i := 25) rfl))) Via.refl e9 f12 f10 (Or.inl (hw _ (List.mem_of_getElem? (i := 26) rfl))) (hw _ (List.mem_of_getElem? (i := 6) rfl)) (ty := (.array .int)) (by decide) rfl rfl (g := (mkF m 41 #[.val (.ref a1), .val (.int (own_sh6 iv)), .val .null, .unset, .unset, .unset] [(.ref b9), (.ref a1)])) rfl rfl (hb hby d42_41)
      have nx19 : cT ≠ a1 := (Av.neObj ⟨_, f15⟩ f10 (hw _ (List.mem_of_getElem? (i := 6) rfl)))
      have nx20 : b9 ≠ a1 := (Ne.symm ne_a1_b9)
      have f21 := f10.wr W18
      have f22 := f11.other W18 (Or.inr (slot_ne (Or.inr (hw _ (List.mem_of_getElem? (i := 15) rfl))) (Or.inl (hw _ (List.mem_of_getElem? (i := 26) rfl))) (by decide) (t := .int) (t' := (.array .int)) (by decide) (by decide)))
      have f23 := f12.same W18
      have f24 := f13.other W18 (Or.inr (slot_ne (Or.inl (hw _ (List.mem_of_getElem? (i := 19) rfl))) (Or.inl (hw _ (List.mem_of_getElem? (i := 26) rfl))) (by decide) (t := (.array (.array .int))) (t' := (.array .int)) (by decide) (by decide)))
      have f25 := f14.other W18 (Or.inr (slot_ne (Or.inl (hw _ (List.mem_of_getElem? (i := 38) rfl))) (Or.inl (hw _ (List.mem_of_getElem? (i := 26) rfl))) (by decide) (t := .int) (t' := (.array .int)) (by decide) (by decide)))
      have f26 := f15.other W18 nx19
      have f27 := V9.other W18 nx20
      have f28 := B9.wr W18
      have P29 := P16.other W18 (P16.neObj f10 (hw _ (List.mem_of_getElem? (i := 6) rfl)))
      have N30 := Fr.snoc X18 N0 g1
      have OLD30 := OLD17.wr W18 g1
      have Z30 := Nat.le_trans Z17 (Nat.le_of_eq W18.size.symm)
      refine ogo st18 ?_
      show OwnEnds _ _ _ _ _ _ _ (T18.setTop (mkF m 44 #[.val (.ref a1), .val (.int (own_sh6 iv)), .val .null, .unset, .unset, .unset] []))
      refine ogo (fun t k => XS.iconst X18.here hx rfl (hb hby d42_44) k) ?_
      show OwnEnds _ _ _ _ _ _ _ (T18.setTop (mkF m 45 #[.val (.ref a1), .val (.int (own_sh6 iv)), .val .null, .unset, .unset, .unset] [(.int (0 : Int32))]))
      refine ogo (fun t k => XS.istoreN X18.here hx rfl (hb hby d42_45) rfl (l' := #[.val (.ref a1), .val (.int (own_sh6 iv)), .val .null, .val (.int (0 : Int32)), .unset, .unset]) rfl k) ?_
      exact lp42 Z a0 hw a1 iv n f pf cT mu kT h0 n0 g1 gc hn b9 k9 q_b9 pn_b9 ne_a1_b9 ne_cT_b9 hx hZ hby hml hown hnm hlk hret (own_L n).toInt.toNat T18 h18 _ (0 : Int32) .unset .unset (Or.inl rfl) (Or.inl rfl) (by decide) (by have y := own_L_i hn; have y2 := hn.1; have y3 : (0 : Int32).toInt = 0 := rfl; omega) X18 e18 N30 OLD30 Z30 f21 f22 f23 f24 f26 (by rw [show (0 : Int32).toInt.toNat = 0 from rfl, part_zero]; exact f27) P29
    · refine ogo (fun t k => XS.ifYes X5.here hx rfl (pc0 := 29) (pc' := 117) rfl (hb hby d42_29) rfl ((if0 _ _).trans (flt (fun q => hc7 ((lw_gt ((4 : Int64) * ((mu + (1 : Int32)).toInt64)) ((own_L n).toInt64)).mp q))).2.2.2) (by decide) (by decide) k) ?_
      show OwnEnds _ _ _ _ _ _ _ (T5.setTop (mkF m 117 #[.val (.ref a1), .val (.int (own_sh6 iv)), .val .null, .unset, .unset, .unset] []))
      refine ogo (fun t k => XS.aloadN X5.here hx rfl (hb hby d42_117) rfl rfl k) ?_
      show OwnEnds _ _ _ _ _ _ _ (T5.setTop (mkF m 118 #[.val (.ref a1), .val (.int (own_sh6 iv)), .val .null, .unset, .unset, .unset] [.null]))
      refine ogo (fun t k => XS.ifnonnullNo X5.here hx rfl (hb hby d42_118) rfl k) ?_
      show OwnEnds _ _ _ _ _ _ _ (T5.setTop (mkF m 121 #[.val (.ref a1), .val (.int (own_sh6 iv)), .val .null, .unset, .unset, .unset] []))
      refine ogo (fun t k => XS.bipush X5.here hx rfl (hb hby d42_121) k) ?_
      show OwnEnds _ _ _ _ _ _ _ (T5.setTop (mkF m 123 #[.val (.ref a1), .val (.int (own_sh6 iv)), .val .null, .unset, .unset, .unset] [(.int (64 : Int32))]))
      obtain ⟨T63, h63, k63, X63, e63, E63, A63, B63, st63⟩ := newPE X5 hx hZ (hw _ (List.mem_of_getElem? (i := 39) rfl)) e5 (g := (mkF m 123 #[.val (.ref a1), .val (.int (own_sh6 iv)), .val .null, .unset, .unset, .unset] [(.int (64 : Int32))])) rfl (hb hby d42_123) (n := (64 : Int32)) rfl (by decide) (cap := 64) (by decide) (by decide) (by decide) (by decide) (ad := "[I") (by decide)
      obtain ⟨b63, g63⟩ : ∃ z, z = h0.size := ⟨_, rfl⟩
      rw [← g63] at A63 B63 st63
      have ne_a1_b63 : a1 ≠ b63 := Nat.ne_of_lt (Nat.lt_of_lt_of_le (E_1).lt (Nat.le_of_eq g63.symm))
      have ne_cT_b63 : cT ≠ b63 := Nat.ne_of_lt (Nat.lt_of_lt_of_le (V_c).lt (Nat.le_of_eq g63.symm))
      have pn_b63 := PPh.ne_new g63
      have q_b63 : n0 ≤ b63 := Nat.le_trans Z0 (Nat.le_of_eq g63.symm)
      have f64 := E_1.ext E63
      have f65 := F_n.ext E63
      have f66 := F_a.ext E63
      have f67 := F_p.ext E63
      have f68 := F_m.ext E63
      have f69 := V_c.ext E63
      have P70 := PPh.ext E63
      have OLD71 := OLD.ext E63
      have Z71 := Nat.le_trans Z0 E63.1
      have V63 : Arv Z h63 b63 k63 .int (64 : Int32) (lst (fun _ => 0) ((64 : Int32)).toNatClampNeg) (.int (0 : Int32)) := by
        have q := (Arv.new A63 (by decide)).pad (pad_rep [] (.int (0 : Int32)) ((64 : Int32)).toNatClampNeg)
        rw [List.nil_append, lst_rep] at q
        exact q
      refine ogo st63 ?_
      show OwnEnds _ _ _ _ _ _ _ (T63.setTop (mkF m 125 #[.val (.ref a1), .val (.int (own_sh6 iv)), .val .null, .unset, .unset, .unset] [(.ref b63)]))
      refine ogo (fun t k => XS.astoreN X63.here hx rfl (hb hby d42_125) rfl rfl (l' := #[.val (.ref a1), .val (.int (own_sh6 iv)), .val (.ref b63), .unset, .unset, .unset]) rfl k) ?_
      show OwnEnds _ _ _ _ _ _ _ (T63.setTop (mkF m 126 #[.val (.ref a1), .val (.int (own_sh6 iv)), .val (.ref b63), .unset, .unset, .unset] []))
      refine ogo (fun t k => XS.aloadN X63.here hx rfl (hb hby d42_126) rfl rfl k) ?_
      show OwnEnds _ _ _ _ _ _ _ (T63.setTop (mkF m 127 #[.val (.ref a1), .val (.int (own_sh6 iv)), .val (.ref b63), .unset, .unset, .unset] [(.ref a1)]))
      obtain ⟨T72, X72, e72, st72⟩ := getF X63 hx hZ hown (host := "") (Or.inl (hw _ (List.mem_of_getElem? (i := 18) rfl))) Via.refl e63 f67 (g := (mkF m 127 #[.val (.ref a1), .val (.int (own_sh6 iv)), .val (.ref b63), .unset, .unset, .unset] [(.ref a1)])) rfl rfl (hb hby d42_127)
      refine ogo st72 ?_
      show OwnEnds _ _ _ _ _ _ _ (T72.setTop (mkF m 130 #[.val (.ref a1), .val (.int (own_sh6 iv)), .val (.ref b63), .unset, .unset, .unset] [(.ref cT)]))
      refine ogo (fun t k => XS.iloadN X72.here hx rfl (hb hby d42_130) rfl k) ?_
      show OwnEnds _ _ _ _ _ _ _ (T72.setTop (mkF m 131 #[.val (.ref a1), .val (.int (own_sh6 iv)), .val (.ref b63), .unset, .unset, .unset] [(.int (own_sh6 iv)), (.ref cT)]))
      refine ogo (fun t k => XS.aloadN X72.here hx rfl (hb hby d42_131) rfl rfl k) ?_
      show OwnEnds _ _ _ _ _ _ _ (T72.setTop (mkF m 132 #[.val (.ref a1), .val (.int (own_sh6 iv)), .val (.ref b63), .unset, .unset, .unset] [(.ref b63), (.int (own_sh6 iv)), (.ref cT)]))
      obtain ⟨cl73, Ar73, Aq73, As73, An73, Ah73, Ag73⟩ := id f69
      obtain ⟨T73, h73, X73, e73, W73, st73⟩ := stR X72 hx hZ e72 Ar73 (j := own_sh6 iv) (inb_of As73 (own_pi hn hp).1) rfl (Sto.ofVA Ar73 Aq73 O_c (Ins.self B63)) (g := (mkF m 132 #[.val (.ref a1), .val (.int (own_sh6 iv)), .val (.ref b63), .unset, .unset, .unset] [(.ref b63), (.int (own_sh6 iv)), (.ref cT)])) rfl rfl (hb hby d42_132)
      have V73 : Arv Z h73 cT kT (.array .int) (own_L n) (lstV (fupdV pf (iv.toInt.toNat / 64) (.ref b63)) (own_L n).toNatClampNeg) .null := by
        have q := Arv.set Ar73 Aq73 As73 An73 Ah73 Ag73 rfl W73 (iv.toInt.toNat / 64) (own_pi hn hp).2.1 (by rw [lstV_len]; exact (own_pi hn hp).2.2)
        rw [lstV_set] at q
        exact q
      have P74 := P70.make (own_pi hn hp).2.2 e0t q_b63 ⟨_, V63⟩
      have PIn := PIh.make (i := (iv.toInt.toNat / 64)) pn_b63
      have nx75 : a1 ≠ cT := (Ne.symm (Av.neObj ⟨_, f69⟩ f64 (hw _ (List.mem_of_getElem? (i := 6) rfl))))
      have nx76 : b63 ≠ cT := (Ne.symm ne_cT_b63)
      have f77 := f64.wr W73
      have f78 := f65.other W73 (Or.inl nx75)
      have f79 := f66.other W73 (Or.inl nx75)
      have f80 := f67.other W73 (Or.inl nx75)
      have f81 := f68.other W73 (Or.inl nx75)
      have f82 := V63.other W73 nx76
      have f83 := B63.wr W73
      have P84 := P74.other W73 (P74.neTab f69)
      have N85 := Fr.snoc X73 N0 gc
      have OLD85 := OLD71.wr W73 gc
      have Z85 := Nat.le_trans Z71 (Nat.le_of_eq W73.size.symm)
      refine ogo st73 ?_
      show OwnEnds _ _ _ _ _ _ _ (T73.setTop (mkF m 133 #[.val (.ref a1), .val (.int (own_sh6 iv)), .val (.ref b63), .unset, .unset, .unset] []))
      refine ogo (fun t k => XS.aloadN X73.here hx rfl (hb hby d42_133) rfl rfl k) ?_
      show OwnEnds _ _ _ _ _ _ _ (T73.setTop (mkF m 134 #[.val (.ref a1), .val (.int (own_sh6 iv)), .val (.ref b63), .unset, .unset, .unset] [(.ref a1)]))
      refine ogo (fun t k => XS.dup X73.here hx rfl (hb hby d42_134) rfl rfl k) ?_
      show OwnEnds _ _ _ _ _ _ _ (T73.setTop (mkF m 135 #[.val (.ref a1), .val (.int (own_sh6 iv)), .val (.ref b63), .unset, .unset, .unset] [(.ref a1), (.ref a1)]))
      obtain ⟨T86, X86, e86, st86⟩ := getF X73 hx hZ hown (host := "") (Or.inl (hw _ (List.mem_of_getElem? (i := 37) rfl))) Via.refl e73 f81 (g := (mkF m 135 #[.val (.ref a1), .val (.int (own_sh6 iv)), .val (.ref b63), .unset, .unset, .unset] [(.ref a1), (.ref a1)])) rfl rfl (hb hby d42_135)
      refine ogo st86 ?_
      show OwnEnds _ _ _ _ _ _ _ (T86.setTop (mkF m 138 #[.val (.ref a1), .val (.int (own_sh6 iv)), .val (.ref b63), .unset, .unset, .unset] [(.int mu), (.ref a1)]))
      refine ogo (fun t k => XS.iconst X86.here hx rfl (hb hby d42_138) k) ?_
      show OwnEnds _ _ _ _ _ _ _ (T86.setTop (mkF m 139 #[.val (.ref a1), .val (.int (own_sh6 iv)), .val (.ref b63), .unset, .unset, .unset] [(.int (1 : Int32)), (.int mu), (.ref a1)]))
      refine ogo (fun t k => XS.iadd X86.here hx rfl (hb hby d42_139) rfl k) ?_
      show OwnEnds _ _ _ _ _ _ _ (T86.setTop (mkF m 140 #[.val (.ref a1), .val (.int (own_sh6 iv)), .val (.ref b63), .unset, .unset, .unset] [(.int (mu + (1 : Int32))), (.ref a1)]))
      obtain ⟨T87, h87, X87, e87, W87, st87⟩ := putF X86 hx hZ hown (host := "") (Or.inl (hw _ (List.mem_of_getElem? (i := 37) rfl))) Via.refl e86 f81 f77 (Or.inl (hw _ (List.mem_of_getElem? (i := 38) rfl))) (hw _ (List.mem_of_getElem? (i := 6) rfl)) (ty := .int) (by decide) rfl rfl (g := (mkF m 140 #[.val (.ref a1), .val (.int (own_sh6 iv)), .val (.ref b63), .unset, .unset, .unset] [(.int (mu + (1 : Int32))), (.ref a1)])) rfl rfl (hb hby d42_140)
      have nx88 : cT ≠ a1 := (Ne.symm nx75)
      have nx89 : b63 ≠ a1 := (Ne.symm ne_a1_b63)
      have f90 := f77.wr W87
      have f91 := f78.other W87 (Or.inr (slot_ne (Or.inr (hw _ (List.mem_of_getElem? (i := 15) rfl))) (Or.inl (hw _ (List.mem_of_getElem? (i := 38) rfl))) (by decide) (t := .int) (t' := .int) (by decide) (by decide)))
      have f92 := f79.other W87 (Or.inr (slot_ne (Or.inl (hw _ (List.mem_of_getElem? (i := 26) rfl))) (Or.inl (hw _ (List.mem_of_getElem? (i := 38) rfl))) (by decide) (t := (.array .int)) (t' := .int) (by decide) (by decide)))
      have f93 := f80.other W87 (Or.inr (slot_ne (Or.inl (hw _ (List.mem_of_getElem? (i := 19) rfl))) (Or.inl (hw _ (List.mem_of_getElem? (i := 38) rfl))) (by decide) (t := (.array (.array .int))) (t' := .int) (by decide) (by decide)))
      have f94 := f81.same W87
      have f95 := V73.other W87 nx88
      have f96 := f82.other W87 nx89
      have f97 := f83.wr W87
      have P98 := P84.other W87 (P84.neObj f77 (hw _ (List.mem_of_getElem? (i := 6) rfl)))
      have N99 := Fr.snoc X87 N85 g1
      have OLD99 := OLD85.wr W87 g1
      have Z99 := Nat.le_trans Z85 (Nat.le_of_eq W87.size.symm)
      refine ogo st87 ?_
      show OwnEnds _ _ _ _ _ _ _ (T87.setTop (mkF m 143 #[.val (.ref a1), .val (.int (own_sh6 iv)), .val (.ref b63), .unset, .unset, .unset] []))
      refine ogo (fun t k => XS.aloadN X87.here hx rfl (hb hby d42_143) rfl rfl k) ?_
      show OwnEnds _ _ _ _ _ _ _ (T87.setTop (mkF m 144 #[.val (.ref a1), .val (.int (own_sh6 iv)), .val (.ref b63), .unset, .unset, .unset] [(.ref b63)]))
      refine endA X87 hx hlk hret rfl rfl (hb hby d42_144) (by decide) (by decide) ?_
      show Q42 Z a1 iv n f pf cT mu kT h0 n0 _ T87.heap _
      rw [e87]
      exact ⟨N99, OLD99, Z99, Or.inl ⟨b63, (fupdV pf (iv.toInt.toNat / 64) (.ref b63)), mu + 1, rfl, by simp [fupdV], ⟨g1, f90, f91⟩, f92, gc, f93, f94, own_mu1 (by decide) hmu, f95, O_c, P98, PIn⟩⟩
  · refine ogo (fun t k => X1.aaload hx (j := (own_sh6 iv)) (v := (.ref p)) (by rw [e1]; exact Ar2.1) (State.isArrayOf_alike hZ.alike Ar2.2.1) rfl Ar2.2.2 (inb_of As2 (own_pi hn hp).1) (Ah2.at (inb_of As2 (own_pi hn hp).1) ((congrArg (fun t => (lstV pf (own_L n).toNatClampNeg).getD t .null) (own_pi hn hp).2.1).trans ((lstV_at (own_pi hn hp).2.2).trans e0t))) (g := (mkF m 5 #[.val (.ref a1), .val (.int (own_sh6 iv)), .unset, .unset, .unset, .unset] [(.int (own_sh6 iv)), (.ref cT)])) rfl rfl (hb hby d42_5) t k) ?_
    show OwnEnds _ _ _ _ _ _ _ (T1.setTop (mkF m 6 #[.val (.ref a1), .val (.int (own_sh6 iv)), .unset, .unset, .unset, .unset] [(.ref p)]))
    refine ogo (fun t k => XS.astoreN X1.here hx rfl (hb hby d42_6) rfl rfl (l' := #[.val (.ref a1), .val (.int (own_sh6 iv)), .val (.ref p), .unset, .unset, .unset]) rfl k) ?_
    show OwnEnds _ _ _ _ _ _ _ (T1.setTop (mkF m 7 #[.val (.ref a1), .val (.int (own_sh6 iv)), .val (.ref p), .unset, .unset, .unset] []))
    refine ogo (fun t k => XS.aloadN X1.here hx rfl (hb hby d42_7) rfl rfl k) ?_
    show OwnEnds _ _ _ _ _ _ _ (T1.setTop (mkF m 8 #[.val (.ref a1), .val (.int (own_sh6 iv)), .val (.ref p), .unset, .unset, .unset] [(.ref p)]))
    refine ogo (fun t k => XS.ifnonnullYes X1.here hx rfl (pc0 := 8) (pc' := 117) rfl (hb hby d42_8) rfl (by decide) (by decide) k) ?_
    show OwnEnds _ _ _ _ _ _ _ (T1.setTop (mkF m 117 #[.val (.ref a1), .val (.int (own_sh6 iv)), .val (.ref p), .unset, .unset, .unset] []))
    refine ogo (fun t k => XS.aloadN X1.here hx rfl (hb hby d42_117) rfl rfl k) ?_
    show OwnEnds _ _ _ _ _ _ _ (T1.setTop (mkF m 118 #[.val (.ref a1), .val (.int (own_sh6 iv)), .val (.ref p), .unset, .unset, .unset] [(.ref p)]))
    refine ogo (fun t k => XS.ifnonnullYes X1.here hx rfl (pc0 := 118) (pc' := 143) rfl (hb hby d42_118) rfl (by decide) (by decide) k) ?_
    show OwnEnds _ _ _ _ _ _ _ (T1.setTop (mkF m 143 #[.val (.ref a1), .val (.int (own_sh6 iv)), .val (.ref p), .unset, .unset, .unset] []))
    refine ogo (fun t k => XS.aloadN X1.here hx rfl (hb hby d42_143) rfl rfl k) ?_
    show OwnEnds _ _ _ _ _ _ _ (T1.setTop (mkF m 144 #[.val (.ref a1), .val (.int (own_sh6 iv)), .val (.ref p), .unset, .unset, .unset] [(.ref p)]))
    refine endA X1 hx hlk hret rfl rfl (hb hby d42_144) (by decide) (by decide) ?_
    show Q42 Z a1 iv n f pf cT mu kT h0 n0 _ T1.heap _
    rw [e1]
    exact ⟨N0, OLD, Z0, Or.inl ⟨p, pf, mu, rfl, e0t, ⟨g1, E_1, F_n⟩, F_a, gc, F_p, F_m, ⟨hmu.1, by have := hmu.2; omega⟩, V_c, O_c, PPh, PIh⟩⟩
theorem d52_0 : decode prog_32_method_3_code 0 = .ok (.aload_n 0, 1) := by decide +kernel
theorem d52_1 : decode prog_32_method_3_code 1 = .ok (.getfield 19, 3) := by decide +kernel
theorem d52_4 : decode prog_32_method_3_code 4 = .ok (.ifnonnull 14, 3) := by decide +kernel
theorem d52_7 : decode prog_32_method_3_code 7 = .ok (.aload_n 0, 1) := by decide +kernel
theorem d52_8 : decode prog_32_method_3_code 8 = .ok (.iload_n 1, 1) := by decide +kernel
theorem d52_9 : decode prog_32_method_3_code 9 = .ok (.bipush 6, 2) := by decide +kernel
theorem d52_11 : decode prog_32_method_3_code 11 = .ok (.iushr, 1) := by decide +kernel
theorem d52_12 : decode prog_32_method_3_code 12 = .ok (.invokevirtual 22, 3) := by decide +kernel
theorem d52_15 : decode prog_32_method_3_code 15 = .ok (.goto 4, 3) := by decide +kernel
theorem d52_18 : decode prog_32_method_3_code 18 = .ok (.aconst_null, 1) := by decide +kernel
theorem d52_19 : decode prog_32_method_3_code 19 = .ok (.astore_n 3, 1) := by decide +kernel
theorem d52_20 : decode prog_32_method_3_code 20 = .ok (.aload_n 3, 1) := by decide +kernel
theorem d52_21 : decode prog_32_method_3_code 21 = .ok (.ifnull 13, 3) := by decide +kernel
theorem d52_24 : decode prog_32_method_3_code 24 = .ok (.aload_n 3, 1) := by decide +kernel
theorem d52_25 : decode prog_32_method_3_code 25 = .ok (.iload_n 1, 1) := by decide +kernel
theorem d52_26 : decode prog_32_method_3_code 26 = .ok (.bipush 63, 2) := by decide +kernel
theorem d52_28 : decode prog_32_method_3_code 28 = .ok (.iand, 1) := by decide +kernel
theorem d52_29 : decode prog_32_method_3_code 29 = .ok (.iload_n 2, 1) := by decide +kernel
theorem d52_30 : decode prog_32_method_3_code 30 = .ok (.iastore, 1) := by decide +kernel
theorem d52_31 : decode prog_32_method_3_code 31 = .ok (.goto 10, 3) := by decide +kernel
theorem d52_34 : decode prog_32_method_3_code 34 = .ok (.aload_n 0, 1) := by decide +kernel
theorem d52_35 : decode prog_32_method_3_code 35 = .ok (.getfield 19, 3) := by decide +kernel
theorem d52_38 : decode prog_32_method_3_code 38 = .ok (.iload_n 1, 1) := by decide +kernel
theorem d52_39 : decode prog_32_method_3_code 39 = .ok (.iload_n 2, 1) := by decide +kernel
theorem d52_40 : decode prog_32_method_3_code 40 = .ok (.iastore, 1) := by decide +kernel
theorem d52_41 : decode prog_32_method_3_code 41 = .ok (.return_, 1) := by decide +kernel
theorem ef_52 (m : MethodId) (x0 : Addr) (x1 : Int32) (x2 : Int32) : entryFrame m #[(.ref x0), (.int x1), (.int x2)] 4 = mkF m 0 #[.val (.ref x0), .val (.int x1), .val (.int x2), .unset] [] := by first | (simp [entryFrame, mkF, argsToLocals, Value.category]; done) | rfl
def Q52 (Z : State) (a1 : Addr) (iv lv n : Int32) (f : Nat → Int32) (h0 : Heap) (n0 : Nat) (v : Option Value) (h : Heap) (L : List Loc) : Prop := v = none ∧ Fr n0 L ∧ Old Z n0 h ∧ n0 ≤ h.size ∧ Lab Z h n0 a1 n (fupd f iv.toInt.toNat lv) (2 + 1)
set_option maxRecDepth 65536 in
set_option maxHeartbeats 40000000 in
theorem rm52 (l : Launch) (Z : State) (a0 : Array Value) (hw : ∀ d ∈ tables_1, d.before a0 Z = true) (ws : List Jvm.Cond) (a1 : Addr) (iv lv n : Int32) (f : Nat → Int32) (h0 : Heap) (n0 : Nat) (Z0 : n0 ≤ h0.size) (OLD : Old Z n0 h0) (hL : Lab Z h0 n0 a1 n f 2) (hn : OkN n) (hp : InN n iv) :
    MetFree l (⟨"com/example/dispatchwave/dispatchwave/model/VertexLabels", "put", "(II)V"⟩ : MethodName) (head1 (Jvm.Cond.code (⟨"com/example/dispatchwave/dispatchwave/model/VertexLabels", "put", "(II)V"⟩ : MethodName) prog_32_method_3_code 4 none :: ws) ({ frames := 2, cells := 1, slots := 704, locals := 57 } : Room)) (fun a U => a = #[(.ref a1), (.int iv), (.int lv)] ∧ Z.Warmed39 U.vm ∧ U.heap = h0) (fun _ _ _ _ _ => True) (fun _ U o U' => ∃ v L, o = .returned v ∧ Q52 Z a1 iv lv n f h0 n0 v U'.heap L ∧ FrameEnd U o U' L ({ frames := 2, cells := 1, slots := 704, locals := 57 } : Room).cells ({ frames := 2, cells := 1, slots := 704, locals := 57 } : Room).slots) := by
  refine MetFree.of_bodySF (plainFor_of_name pn_VertexLabels) hisR ?_
  intro p e s m args below meth c s₁ Bd hml0 hP hK
  obtain ⟨rfl, hZ, hh⟩ := hP
  have hx := Bd.exec
  have hby := Bd.bytes
  have hml : c.maxLocals = 4 := hml0
  have hown : s.vm.findClass "com/example/dispatchwave/dispatchwave/model/VertexLabels" = some m.cls := findClass_of_methodNamed Bd.named
  have hnm := (name_of_methodNamed Bd.named Bd.method).1
  have hlk : meth.locks = false := BodyLoose.notSynchronized Bd
  have hret := Bd.returns
  have X0 : Stand p l e ({ frames := 2, cells := 1, slots := 704, locals := 57 } : Room) s m #[(.ref a1), (.int iv), (.int lv)] below meth c s₁ [] 0 0 := Stand.of_body Bd
  have e0 : s₁.heap = h0 := by rw [← hh, Bd.state]; rfl
  have N0 := Fr.nil n0
  refine ogo (U' := s₁.setTop (mkF m 0 #[.val (.ref a1), .val (.int iv), .val (.int lv), .unset] [])) (Q := Q52 Z a1 iv lv n f h0 n0) (K := ({ frames := 2, cells := 1, slots := 704, locals := 57 } : Room).cells) (N := ({ frames := 2, cells := 1, slots := 704, locals := 57 } : Room).slots) (fun t k => castTop (ef_52 m a1 iv lv) k) ?_
  obtain ⟨⟨g1, E_1, F_n⟩, hm⟩ := hL
  rcases hm with ⟨b, gb, F_a, V_b⟩ | ⟨pf, cT, mu, kT, F_a, gc, F_p, F_m, hmu, V_c, O_c, PPh, PIh⟩
  · show OwnEnds _ _ _ _ _ _ _ (s₁.setTop (mkF m 0 #[.val (.ref a1), .val (.int iv), .val (.int lv), .unset] []))
    refine ogo (fun t k => XS.aloadN X0.here hx rfl (hb hby d52_0) rfl rfl k) ?_
    show OwnEnds _ _ _ _ _ _ _ (s₁.setTop (mkF m 1 #[.val (.ref a1), .val (.int iv), .val (.int lv), .unset] [(.ref a1)]))
    obtain ⟨T1, X1, e1, st1⟩ := getF X0 hx hZ hown (host := "") (Or.inl (hw _ (List.mem_of_getElem? (i := 25) rfl))) Via.refl e0 F_a (g := (mkF m 1 #[.val (.ref a1), .val (.int iv), .val (.int lv), .unset] [(.ref a1)])) rfl rfl (hb hby d52_1)
    refine ogo st1 ?_
    show OwnEnds _ _ _ _ _ _ _ (T1.setTop (mkF m 4 #[.val (.ref a1), .val (.int iv), .val (.int lv), .unset] [(.ref b)]))
    refine ogo (fun t k => XS.ifnonnullYes X1.here hx rfl (pc0 := 4) (pc' := 18) rfl (hb hby d52_4) rfl (by decide) (by decide) k) ?_
    show OwnEnds _ _ _ _ _ _ _ (T1.setTop (mkF m 18 #[.val (.ref a1), .val (.int iv), .val (.int lv), .unset] []))
    refine ogo (fun t k => XS.aconstNull X1.here hx rfl (hb hby d52_18) k) ?_
    show OwnEnds _ _ _ _ _ _ _ (T1.setTop (mkF m 19 #[.val (.ref a1), .val (.int iv), .val (.int lv), .unset] [.null]))
    refine ogo (fun t k => XS.astoreN X1.here hx rfl (hb hby d52_19) rfl rfl (l' := #[.val (.ref a1), .val (.int iv), .val (.int lv), .val .null]) rfl k) ?_
    show OwnEnds _ _ _ _ _ _ _ (T1.setTop (mkF m 20 #[.val (.ref a1), .val (.int iv), .val (.int lv), .val .null] []))
    refine ogo (fun t k => XS.aloadN X1.here hx rfl (hb hby d52_20) rfl rfl k) ?_
    show OwnEnds _ _ _ _ _ _ _ (T1.setTop (mkF m 21 #[.val (.ref a1), .val (.int iv), .val (.int lv), .val .null] [.null]))
    refine ogo (fun t k => XS.ifnullYes X1.here hx rfl (pc0 := 21) (pc' := 34) rfl (hb hby d52_21) rfl (by decide) (by decide) k) ?_
    show OwnEnds _ _ _ _ _ _ _ (T1.setTop (mkF m 34 #[.val (.ref a1), .val (.int iv), .val (.int lv), .val .null] []))
    refine ogo (fun t k => XS.aloadN X1.here hx rfl (hb hby d52_34) rfl rfl k) ?_
    show OwnEnds _ _ _ _ _ _ _ (T1.setTop (mkF m 35 #[.val (.ref a1), .val (.int iv), .val (.int lv), .val .null] [(.ref a1)]))
    obtain ⟨T2, X2, e2, st2⟩ := getF X1 hx hZ hown (host := "") (Or.inl (hw _ (List.mem_of_getElem? (i := 25) rfl))) Via.refl e1 F_a (g := (mkF m 35 #[.val (.ref a1), .val (.int iv), .val (.int lv), .val .null] [(.ref a1)])) rfl rfl (hb hby d52_35)
    refine ogo st2 ?_
    show OwnEnds _ _ _ _ _ _ _ (T2.setTop (mkF m 38 #[.val (.ref a1), .val (.int iv), .val (.int lv), .val .null] [(.ref b)]))
    refine ogo (fun t k => XS.iloadN X2.here hx rfl (hb hby d52_38) rfl k) ?_
    show OwnEnds _ _ _ _ _ _ _ (T2.setTop (mkF m 39 #[.val (.ref a1), .val (.int iv), .val (.int lv), .val .null] [(.int iv), (.ref b)]))
    refine ogo (fun t k => XS.iloadN X2.here hx rfl (hb hby d52_39) rfl k) ?_
    show OwnEnds _ _ _ _ _ _ _ (T2.setTop (mkF m 40 #[.val (.ref a1), .val (.int iv), .val (.int lv), .val .null] [(.int lv), (.int iv), (.ref b)]))
    obtain ⟨ak3, cl3, Ar3, Aq3, As3, An3, Ah3, Ag3⟩ := id V_b
    obtain ⟨T3, h3, X3, e3, W3, st3⟩ := stI X2 hx hZ e2 Ar3 (j := iv) (inb_of As3 (own_pv hn hp).1) (g := (mkF m 40 #[.val (.ref a1), .val (.int iv), .val (.int lv), .val .null] [(.int lv), (.int iv), (.ref b)])) rfl rfl (hb hby d52_40)
    have V3 : Arv Z h3 b ak3 .int (n + 1) (lst (fupd f iv.toInt.toNat lv) (n + 1).toNatClampNeg) (.int (0 : Int32)) := by
      have q := Arv.set Ar3 Aq3 As3 An3 Ah3 Ag3 rfl W3 iv.toInt.toNat rfl (by rw [lst_len]; exact (own_pv hn hp).2)
      rw [lst_set] at q
      exact q
    have nx4 : a1 ≠ b := (Ne.symm (Av.neObj V_b E_1 (hw _ (List.mem_of_getElem? (i := 6) rfl))))
    have f5 := E_1.wr W3
    have f6 := F_n.other W3 (Or.inl nx4)
    have f7 := F_a.other W3 (Or.inl nx4)
    have N8 := Fr.snoc X3 N0 gb
    have OLD8 := OLD.wr W3 gb
    have Z8 := Nat.le_trans Z0 (Nat.le_of_eq W3.size.symm)
    refine ogo st3 ?_
    show OwnEnds _ _ _ _ _ _ _ (T3.setTop (mkF m 41 #[.val (.ref a1), .val (.int iv), .val (.int lv), .val .null] []))
    refine endV X3 hx hlk hret (hb hby d52_41) (by decide) (by decide) ?_
    show Q52 Z a1 iv lv n f h0 n0 _ T3.heap _
    rw [e3]
    exact ⟨rfl, N8, OLD8, Z8, ⟨g1, f5, f6⟩, Or.inl ⟨b, gb, f7, ⟨_, V3⟩⟩⟩
  · show OwnEnds _ _ _ _ _ _ _ (s₁.setTop (mkF m 0 #[.val (.ref a1), .val (.int iv), .val (.int lv), .unset] []))
    refine ogo (fun t k => XS.aloadN X0.here hx rfl (hb hby d52_0) rfl rfl k) ?_
    show OwnEnds _ _ _ _ _ _ _ (s₁.setTop (mkF m 1 #[.val (.ref a1), .val (.int iv), .val (.int lv), .unset] [(.ref a1)]))
    obtain ⟨T9, X9, e9, st9⟩ := getF X0 hx hZ hown (host := "") (Or.inl (hw _ (List.mem_of_getElem? (i := 25) rfl))) Via.refl e0 F_a (g := (mkF m 1 #[.val (.ref a1), .val (.int iv), .val (.int lv), .unset] [(.ref a1)])) rfl rfl (hb hby d52_1)
    refine ogo st9 ?_
    show OwnEnds _ _ _ _ _ _ _ (T9.setTop (mkF m 4 #[.val (.ref a1), .val (.int iv), .val (.int lv), .unset] [.null]))
    refine ogo (fun t k => XS.ifnonnullNo X9.here hx rfl (hb hby d52_4) rfl k) ?_
    show OwnEnds _ _ _ _ _ _ _ (T9.setTop (mkF m 7 #[.val (.ref a1), .val (.int iv), .val (.int lv), .unset] []))
    refine ogo (fun t k => XS.aloadN X9.here hx rfl (hb hby d52_7) rfl rfl k) ?_
    show OwnEnds _ _ _ _ _ _ _ (T9.setTop (mkF m 8 #[.val (.ref a1), .val (.int iv), .val (.int lv), .unset] [(.ref a1)]))
    refine ogo (fun t k => XS.iloadN X9.here hx rfl (hb hby d52_8) rfl k) ?_
    show OwnEnds _ _ _ _ _ _ _ (T9.setTop (mkF m 9 #[.val (.ref a1), .val (.int iv), .val (.int lv), .unset] [(.int iv), (.ref a1)]))
    refine ogo (fun t k => XS.bipush X9.here hx rfl (hb hby d52_9) k) ?_
    show OwnEnds _ _ _ _ _ _ _ (T9.setTop (mkF m 11 #[.val (.ref a1), .val (.int iv), .val (.int lv), .unset] [(.int (6 : Int32)), (.int iv), (.ref a1)]))
    refine ogo (fun t k => XS.iushr X9.here hx rfl (hb hby d52_11) rfl k) ?_
    show OwnEnds _ _ _ _ _ _ _ (T9.setTop (mkF m 12 #[.val (.ref a1), .val (.int iv), .val (.int lv), .unset] [(.int ((iv.toUInt32 >>> ((6 : Int32) &&& 31).toUInt32).toInt32)), (.ref a1)]))
    obtain ⟨cq10, q10, q10'⟩ := E_1.cell
    obtain ⟨v10, _, ⟨T10, L10, k10, n10⟩, -, X10, ⟨Lc10, hQ10, l10, y10, z10⟩, st10⟩ := X9.privateBack hx (y := (⟨"com/example/dispatchwave/dispatchwave/model/VertexLabels", "page", "(I)[I"⟩ : MethodName)) hown (mvT hZ (hw _ (List.mem_of_getElem? (i := 32) rfl))) (mvT hZ (hw _ (List.mem_of_getElem? (i := 33) rfl))) (own_selP (z := (⟨"com/example/dispatchwave/dispatchwave/model/VertexLabels", "get", "(I)I"⟩ : MethodName)) (mvT hZ (hw _ (List.mem_of_getElem? (i := 23) rfl))) rfl (Cond.privateMethod_at (mvP hZ (hw _ (List.mem_of_getElem? (i := 34) rfl)) (args := #[]))) (mvT hZ (hw _ (List.mem_of_getElem? (i := 33) rfl))) (by decide)) (Cond.privateMethod_at (mvP hZ (hw _ (List.mem_of_getElem? (i := 34) rfl)) (args := #[]))) (mvT hZ (hw _ (List.mem_of_getElem? (i := 35) rfl))) (by decide) (backOf (W := 0) (rm42 l Z a0 hw [] a1 iv n f pf cT mu kT h0 n0 Z0 OLD g1 E_1 F_n F_a gc F_p F_m hmu V_c O_c PPh PIh hn hp) hZ (hw _ (List.mem_of_getElem? (i := 35) rfl)) (hw _ (List.mem_of_getElem? (i := 7) rfl)) (by decide) (by decide)) (g := (mkF m 12 #[.val (.ref a1), .val (.int iv), .val (.int lv), .unset] [(.int ((iv.toUInt32 >>> ((6 : Int32) &&& 31).toUInt32).toInt32)), (.ref a1)])) rfl (by rw [hml]; rfl) (Steps.refl _) (a := a1) (by rw [e9]; exact q10) q10' (argsL := [(.int ((iv.toUInt32 >>> ((6 : Int32) &&& 31).toUInt32).toInt32))]) (rest := []) (lenOf pd__I__I rfl) rfl (by show 2 * 0 + _ ≤ _; exact Nat.le_of_eq rfl) (hb hby d52_12) (fun _ _ => ⟨rfl, e9, (by decide : 0 + 1 ≤ _), (by decide : 0 + 704 ≤ _)⟩)
    dsimp only [Pt.U, Pt.locs, Pt.cells, Pt.slots] at X10 l10 y10 z10 st10 hQ10
    subst l10 y10 z10
    obtain ⟨N10q, OLDq, Zq, hcase⟩ := hQ10
    have N10 := Fr.app N0 N10q
    rcases hcase with ⟨p, pf, mu, rfl, ep, ⟨g1, E_1, F_n⟩, F_a, gc, F_p, F_m, hmu, V_c, O_c, PPq, PIq⟩ | ⟨rfl, ⟨g1, E_1, F_n⟩, b, gb, F_a, V_b⟩
    · refine ogo (fun t k => st10.trans k) ?_
      obtain ⟨gp, Vp⟩ := PPq.page (own_pi hn hp).2.2 ep
      show OwnEnds _ _ _ _ _ _ _ (T10.setTop (mkF m 15 #[.val (.ref a1), .val (.int iv), .val (.int lv), .unset] [(.ref p)]))
      refine ogo (fun t k => XS.goto X10.here hx rfl (pc0 := 15) (pc' := 19) rfl (hb hby d52_15) (by decide) (by decide) k) ?_
      show OwnEnds _ _ _ _ _ _ _ (T10.setTop (mkF m 19 #[.val (.ref a1), .val (.int iv), .val (.int lv), .unset] [(.ref p)]))
      refine ogo (fun t k => XS.astoreN X10.here hx rfl (hb hby d52_19) rfl rfl (l' := #[.val (.ref a1), .val (.int iv), .val (.int lv), .val (.ref p)]) rfl k) ?_
      show OwnEnds _ _ _ _ _ _ _ (T10.setTop (mkF m 20 #[.val (.ref a1), .val (.int iv), .val (.int lv), .val (.ref p)] []))
      refine ogo (fun t k => XS.aloadN X10.here hx rfl (hb hby d52_20) rfl rfl k) ?_
      show OwnEnds _ _ _ _ _ _ _ (T10.setTop (mkF m 21 #[.val (.ref a1), .val (.int iv), .val (.int lv), .val (.ref p)] [(.ref p)]))
      refine ogo (fun t k => XS.ifnullNo X10.here hx rfl (hb hby d52_21) rfl k) ?_
      show OwnEnds _ _ _ _ _ _ _ (T10.setTop (mkF m 24 #[.val (.ref a1), .val (.int iv), .val (.int lv), .val (.ref p)] []))
      refine ogo (fun t k => XS.aloadN X10.here hx rfl (hb hby d52_24) rfl rfl k) ?_
      show OwnEnds _ _ _ _ _ _ _ (T10.setTop (mkF m 25 #[.val (.ref a1), .val (.int iv), .val (.int lv), .val (.ref p)] [(.ref p)]))
      refine ogo (fun t k => XS.iloadN X10.here hx rfl (hb hby d52_25) rfl k) ?_
      show OwnEnds _ _ _ _ _ _ _ (T10.setTop (mkF m 26 #[.val (.ref a1), .val (.int iv), .val (.int lv), .val (.ref p)] [(.int iv), (.ref p)]))
      refine ogo (fun t k => XS.bipush X10.here hx rfl (hb hby d52_26) k) ?_
      show OwnEnds _ _ _ _ _ _ _ (T10.setTop (mkF m 28 #[.val (.ref a1), .val (.int iv), .val (.int lv), .val (.ref p)] [(.int (63 : Int32)), (.int iv), (.ref p)]))
      refine ogo (fun t k => XS.iand X10.here hx rfl (hb hby d52_28) rfl k) ?_
      show OwnEnds _ _ _ _ _ _ _ (T10.setTop (mkF m 29 #[.val (.ref a1), .val (.int iv), .val (.int lv), .val (.ref p)] [(.int (iv &&& (63 : Int32))), (.ref p)]))
      refine ogo (fun t k => XS.iloadN X10.here hx rfl (hb hby d52_29) rfl k) ?_
      show OwnEnds _ _ _ _ _ _ _ (T10.setTop (mkF m 30 #[.val (.ref a1), .val (.int iv), .val (.int lv), .val (.ref p)] [(.int lv), (.int (iv &&& (63 : Int32))), (.ref p)]))
      obtain ⟨ak11, cl11, Ar11, Aq11, As11, An11, Ah11, Ag11⟩ := id Vp
      obtain ⟨T11, h11, X11, e11, W11, st11⟩ := stI X10 hx hZ rfl Ar11 (j := iv &&& 63) (inb_of As11 (own_pj iv hp.1).1) (g := (mkF m 30 #[.val (.ref a1), .val (.int iv), .val (.int lv), .val (.ref p)] [(.int lv), (.int (iv &&& (63 : Int32))), (.ref p)])) rfl rfl (hb hby d52_30)
      have V11 : Av Z h11 p .int (64 : Int32) (lst (fupd (fun j => f (64 * (iv.toInt.toNat / 64) + j)) (iv.toInt.toNat % 64) lv) 64) (.int (0 : Int32)) := by
        have q := Arv.set Ar11 Aq11 As11 An11 Ah11 Ag11 rfl W11 (iv.toInt.toNat % 64) (own_pj iv hp.1).2 (by rw [lst_len]; exact Nat.mod_lt _ (by decide))
        rw [lst_set] at q
        exact ⟨_, q⟩
      have nxc : cT ≠ p := Ne.symm (PPq.neTab V_c _ _ (own_pi hn hp).2.2 ep)
      have Pn : PP Z h11 n0 pf (own_L n).toNatClampNeg (fupd f iv.toInt.toNat lv) := by
        have q := PPq.write PIq (own_pi hn hp).2.2 ep (Nat.mod_lt _ (by decide)) (Keep.of_wr W11) V11
        rw [own_64] at q
        exact q
      have nx12 : a1 ≠ p := (Ne.symm (Av.neObj Vp E_1 (hw _ (List.mem_of_getElem? (i := 6) rfl))))
      have f13 := E_1.wr W11
      have f14 := F_n.other W11 (Or.inl nx12)
      have f15 := F_a.other W11 (Or.inl nx12)
      have f16 := F_p.other W11 (Or.inl nx12)
      have f17 := F_m.other W11 (Or.inl nx12)
      have f18 := V_c.other W11 nxc
      have N19 := Fr.snoc X11 N10 gp
      have OLD19 := OLDq.wr W11 gp
      have Z19 := Nat.le_trans Zq (Nat.le_of_eq W11.size.symm)
      refine ogo st11 ?_
      show OwnEnds _ _ _ _ _ _ _ (T11.setTop (mkF m 31 #[.val (.ref a1), .val (.int iv), .val (.int lv), .val (.ref p)] []))
      refine ogo (fun t k => XS.goto X11.here hx rfl (pc0 := 31) (pc' := 41) rfl (hb hby d52_31) (by decide) (by decide) k) ?_
      show OwnEnds _ _ _ _ _ _ _ (T11.setTop (mkF m 41 #[.val (.ref a1), .val (.int iv), .val (.int lv), .val (.ref p)] []))
      refine endV X11 hx hlk hret (hb hby d52_41) (by decide) (by decide) ?_
      show Q52 Z a1 iv lv n f h0 n0 _ T11.heap _
      rw [e11]
      exact ⟨rfl, N19, OLD19, Z19, ⟨g1, f13, f14⟩, Or.inr ⟨pf, cT, mu, kT, f15, gc, f16, f17, hmu, f18, O_c, Pn, PIq⟩⟩
    · refine ogo (fun t k => st10.trans k) ?_
      show OwnEnds _ _ _ _ _ _ _ (T10.setTop (mkF m 15 #[.val (.ref a1), .val (.int iv), .val (.int lv), .unset] [.null]))
      refine ogo (fun t k => XS.goto X10.here hx rfl (pc0 := 15) (pc' := 19) rfl (hb hby d52_15) (by decide) (by decide) k) ?_
      show OwnEnds _ _ _ _ _ _ _ (T10.setTop (mkF m 19 #[.val (.ref a1), .val (.int iv), .val (.int lv), .unset] [.null]))
      refine ogo (fun t k => XS.astoreN X10.here hx rfl (hb hby d52_19) rfl rfl (l' := #[.val (.ref a1), .val (.int iv), .val (.int lv), .val .null]) rfl k) ?_
      show OwnEnds _ _ _ _ _ _ _ (T10.setTop (mkF m 20 #[.val (.ref a1), .val (.int iv), .val (.int lv), .val .null] []))
      refine ogo (fun t k => XS.aloadN X10.here hx rfl (hb hby d52_20) rfl rfl k) ?_
      show OwnEnds _ _ _ _ _ _ _ (T10.setTop (mkF m 21 #[.val (.ref a1), .val (.int iv), .val (.int lv), .val .null] [.null]))
      refine ogo (fun t k => XS.ifnullYes X10.here hx rfl (pc0 := 21) (pc' := 34) rfl (hb hby d52_21) rfl (by decide) (by decide) k) ?_
      show OwnEnds _ _ _ _ _ _ _ (T10.setTop (mkF m 34 #[.val (.ref a1), .val (.int iv), .val (.int lv), .val .null] []))
      refine ogo (fun t k => XS.aloadN X10.here hx rfl (hb hby d52_34) rfl rfl k) ?_
      show OwnEnds _ _ _ _ _ _ _ (T10.setTop (mkF m 35 #[.val (.ref a1), .val (.int iv), .val (.int lv), .val .null] [(.ref a1)]))
      obtain ⟨T20, X20, e20, st20⟩ := getF X10 hx hZ hown (host := "") (Or.inl (hw _ (List.mem_of_getElem? (i := 25) rfl))) Via.refl rfl F_a (g := (mkF m 35 #[.val (.ref a1), .val (.int iv), .val (.int lv), .val .null] [(.ref a1)])) rfl rfl (hb hby d52_35)
      refine ogo st20 ?_
      show OwnEnds _ _ _ _ _ _ _ (T20.setTop (mkF m 38 #[.val (.ref a1), .val (.int iv), .val (.int lv), .val .null] [(.ref b)]))
      refine ogo (fun t k => XS.iloadN X20.here hx rfl (hb hby d52_38) rfl k) ?_
      show OwnEnds _ _ _ _ _ _ _ (T20.setTop (mkF m 39 #[.val (.ref a1), .val (.int iv), .val (.int lv), .val .null] [(.int iv), (.ref b)]))
      refine ogo (fun t k => XS.iloadN X20.here hx rfl (hb hby d52_39) rfl k) ?_
      show OwnEnds _ _ _ _ _ _ _ (T20.setTop (mkF m 40 #[.val (.ref a1), .val (.int iv), .val (.int lv), .val .null] [(.int lv), (.int iv), (.ref b)]))
      obtain ⟨ak21, cl21, Ar21, Aq21, As21, An21, Ah21, Ag21⟩ := id V_b
      obtain ⟨T21, h21, X21, e21, W21, st21⟩ := stI X20 hx hZ e20 Ar21 (j := iv) (inb_of As21 (own_pv hn hp).1) (g := (mkF m 40 #[.val (.ref a1), .val (.int iv), .val (.int lv), .val .null] [(.int lv), (.int iv), (.ref b)])) rfl rfl (hb hby d52_40)
      have V21 : Arv Z h21 b ak21 .int (n + 1) (lst (fupd f iv.toInt.toNat lv) (n + 1).toNatClampNeg) (.int (0 : Int32)) := by
        have q := Arv.set Ar21 Aq21 As21 An21 Ah21 Ag21 rfl W21 iv.toInt.toNat rfl (by rw [lst_len]; exact (own_pv hn hp).2)
        rw [lst_set] at q
        exact q
      have nx22 : a1 ≠ b := (Ne.symm (Av.neObj V_b E_1 (hw _ (List.mem_of_getElem? (i := 6) rfl))))
      have f23 := E_1.wr W21
      have f24 := F_n.other W21 (Or.inl nx22)
      have f25 := F_a.other W21 (Or.inl nx22)
      have N26 := Fr.snoc X21 N10 gb
      have OLD26 := OLDq.wr W21 gb
      have Z26 := Nat.le_trans Zq (Nat.le_of_eq W21.size.symm)
      refine ogo st21 ?_
      show OwnEnds _ _ _ _ _ _ _ (T21.setTop (mkF m 41 #[.val (.ref a1), .val (.int iv), .val (.int lv), .val .null] []))
      refine endV X21 hx hlk hret (hb hby d52_41) (by decide) (by decide) ?_
      show Q52 Z a1 iv lv n f h0 n0 _ T21.heap _
      rw [e21]
      exact ⟨rfl, N26, OLD26, Z26, ⟨g1, f23, f24⟩, Or.inl ⟨b, gb, f25, ⟨_, V21⟩⟩⟩
theorem d6_0 : decode method_2_code 0 = .ok (.iload_n 0, 1) := by decide +kernel
theorem d6_1 : decode method_2_code 1 = .ok (.ldc 7, 2) := by decide +kernel
theorem d6_3 : decode method_2_code 3 = .ok (.iand, 1) := by decide +kernel
theorem d6_4 : decode method_2_code 4 = .ok (.iload_n 1, 1) := by decide +kernel
theorem d6_5 : decode method_2_code 5 = .ok (.irem, 1) := by decide +kernel
theorem d6_6 : decode method_2_code 6 = .ok (.iconst 1, 1) := by decide +kernel
theorem d6_7 : decode method_2_code 7 = .ok (.iadd, 1) := by decide +kernel
theorem d6_8 : decode method_2_code 8 = .ok (.ireturn, 1) := by decide +kernel
theorem pn_VertexLabelsGetPinLaw : plainName "com/example/dispatchwave/dispatchwave/model/VertexLabelsGetPinLaw" = true := by first | (simp [plainName, overriddenIn]; done) | decide +kernel
theorem ef_6 (m : MethodId) (x0 : Int32) (x1 : Int32) : entryFrame m #[(.int x0), (.int x1)] 2 = mkF m 0 #[.val (.int x0), .val (.int x1)] [] := by first | (simp [entryFrame, mkF, argsToLocals, Value.category]; done) | rfl
def Q6 (Z : State) (r1 n : Int32) (h0 : Heap) (n0 : Nat) (v : Option Value) (h : Heap) (L : List Loc) : Prop := v = some (.int (own_vx r1 n)) ∧ Fr n0 L ∧ h = h0
set_option maxRecDepth 65536 in
set_option maxHeartbeats 40000000 in
theorem rm6 (l : Launch) (Z : State) (a0 : Array Value) (hw : ∀ d ∈ tables_1, d.before a0 Z = true) (ws : List Jvm.Cond) (r1 n : Int32) (h0 : Heap) (n0 : Nat) (Z0 : n0 ≤ h0.size) (hz : n ≠ 0) :
    MetFree l (⟨"com/example/dispatchwave/dispatchwave/model/VertexLabelsGetPinLaw", "vertex", "(II)I"⟩ : MethodName) (head1 (Jvm.Cond.code (⟨"com/example/dispatchwave/dispatchwave/model/VertexLabelsGetPinLaw", "vertex", "(II)I"⟩ : MethodName) method_2_code 2 (some .int) :: ws) ({ frames := 0, cells := 0, slots := 0, locals := 0 } : Room)) (fun a U => a = #[(.int r1), (.int n)] ∧ Z.Warmed39 U.vm ∧ U.heap = h0) (fun _ _ _ _ _ => True) (fun _ U o U' => ∃ v L, o = .returned v ∧ Q6 Z r1 n h0 n0 v U'.heap L ∧ FrameEnd U o U' L ({ frames := 0, cells := 0, slots := 0, locals := 0 } : Room).cells ({ frames := 0, cells := 0, slots := 0, locals := 0 } : Room).slots) := by
  refine MetFree.of_bodySF (plainFor_of_name pn_VertexLabelsGetPinLaw) hisR ?_
  intro p e s m args below meth c s₁ Bd hml0 hP hK
  obtain ⟨rfl, hZ, hh⟩ := hP
  have hx := Bd.exec
  have hby := Bd.bytes
  have hml : c.maxLocals = 2 := hml0
  have hown : s.vm.findClass "com/example/dispatchwave/dispatchwave/model/VertexLabelsGetPinLaw" = some m.cls := findClass_of_methodNamed Bd.named
  have hnm := (name_of_methodNamed Bd.named Bd.method).1
  have hlk : meth.locks = false := BodyLoose.notSynchronized Bd
  have hret := Bd.returns
  have X0 : Stand p l e ({ frames := 0, cells := 0, slots := 0, locals := 0 } : Room) s m #[(.int r1), (.int n)] below meth c s₁ [] 0 0 := Stand.of_body Bd
  have e0 : s₁.heap = h0 := by rw [← hh, Bd.state]; rfl
  have N0 := Fr.nil n0
  refine ogo (U' := s₁.setTop (mkF m 0 #[.val (.int r1), .val (.int n)] [])) (Q := Q6 Z r1 n h0 n0) (K := ({ frames := 0, cells := 0, slots := 0, locals := 0 } : Room).cells) (N := ({ frames := 0, cells := 0, slots := 0, locals := 0 } : Room).slots) (fun t k => castTop (ef_6 m r1 n) k) ?_
  show OwnEnds _ _ _ _ _ _ _ (s₁.setTop (mkF m 0 #[.val (.int r1), .val (.int n)] []))
  refine ogo (fun t k => XS.iloadN X0.here hx rfl (hb hby d6_0) rfl k) ?_
  show OwnEnds _ _ _ _ _ _ _ (s₁.setTop (mkF m 1 #[.val (.int r1), .val (.int n)] [(.int r1)]))
  refine ogo (fun t k => X0.ldcInt hx hown (mvT hZ (hw _ (List.mem_of_getElem? (i := 4) rfl))) (g := (mkF m 1 #[.val (.int r1), .val (.int n)] [(.int r1)])) rfl (hb hby d6_1) t k) ?_
  show OwnEnds _ _ _ _ _ _ _ (s₁.setTop (mkF m 3 #[.val (.int r1), .val (.int n)] [(.int (2147483647 : Int32)), (.int r1)]))
  refine ogo (fun t k => XS.iand X0.here hx rfl (hb hby d6_3) rfl k) ?_
  show OwnEnds _ _ _ _ _ _ _ (s₁.setTop (mkF m 4 #[.val (.int r1), .val (.int n)] [(.int (r1 &&& (2147483647 : Int32)))]))
  refine ogo (fun t k => XS.iloadN X0.here hx rfl (hb hby d6_4) rfl k) ?_
  show OwnEnds _ _ _ _ _ _ _ (s₁.setTop (mkF m 5 #[.val (.int r1), .val (.int n)] [(.int n), (.int (r1 &&& (2147483647 : Int32)))]))
  refine ogo (fun t k => iremM (g := (mkF m 5 #[.val (.int r1), .val (.int n)] [(.int n), (.int (r1 &&& (2147483647 : Int32)))])) X0 hx rfl (hb hby d6_5) rfl hz k) ?_
  show OwnEnds _ _ _ _ _ _ _ (s₁.setTop (mkF m 6 #[.val (.int r1), .val (.int n)] [(.int ((r1 &&& (2147483647 : Int32)) % n))]))
  refine ogo (fun t k => XS.iconst X0.here hx rfl (hb hby d6_6) k) ?_
  show OwnEnds _ _ _ _ _ _ _ (s₁.setTop (mkF m 7 #[.val (.int r1), .val (.int n)] [(.int (1 : Int32)), (.int ((r1 &&& (2147483647 : Int32)) % n))]))
  refine ogo (fun t k => XS.iadd X0.here hx rfl (hb hby d6_7) rfl k) ?_
  show OwnEnds _ _ _ _ _ _ _ (s₁.setTop (mkF m 8 #[.val (.int r1), .val (.int n)] [(.int (((r1 &&& (2147483647 : Int32)) % n) + (1 : Int32)))]))
  refine endI X0 hx hlk hret (hb hby d6_8) (by decide) (by decide) ?_
  show Q6 Z r1 n h0 n0 _ s₁.heap _
  rw [e0]
  exact ⟨rfl, N0, rfl⟩
theorem d7_0 : decode method_3_code 0 = .ok (.iload_n 0, 1) := by decide +kernel
theorem d7_1 : decode method_3_code 1 = .ok (.iload 5, 2) := by decide +kernel
theorem d7_3 : decode method_3_code 3 = .ok (.if_icmp .ne 6, 3) := by decide +kernel
theorem d7_6 : decode method_3_code 6 = .ok (.iload 6, 2) := by decide +kernel
theorem d7_8 : decode method_3_code 8 = .ok (.ireturn, 1) := by decide +kernel
theorem d7_9 : decode method_3_code 9 = .ok (.iload_n 0, 1) := by decide +kernel
theorem d7_10 : decode method_3_code 10 = .ok (.iload_n 3, 1) := by decide +kernel
theorem d7_11 : decode method_3_code 11 = .ok (.if_icmp .ne 6, 3) := by decide +kernel
theorem d7_14 : decode method_3_code 14 = .ok (.iload 4, 2) := by decide +kernel
theorem d7_16 : decode method_3_code 16 = .ok (.ireturn, 1) := by decide +kernel
theorem d7_17 : decode method_3_code 17 = .ok (.iload_n 0, 1) := by decide +kernel
theorem d7_18 : decode method_3_code 18 = .ok (.iload_n 1, 1) := by decide +kernel
theorem d7_19 : decode method_3_code 19 = .ok (.if_icmp .ne 5, 3) := by decide +kernel
theorem d7_22 : decode method_3_code 22 = .ok (.iload_n 2, 1) := by decide +kernel
theorem d7_23 : decode method_3_code 23 = .ok (.ireturn, 1) := by decide +kernel
theorem d7_24 : decode method_3_code 24 = .ok (.iconst 0, 1) := by decide +kernel
theorem d7_25 : decode method_3_code 25 = .ok (.ireturn, 1) := by decide +kernel
theorem ef_7 (m : MethodId) (x0 : Int32) (x1 : Int32) (x2 : Int32) (x3 : Int32) (x4 : Int32) (x5 : Int32) (x6 : Int32) : entryFrame m #[(.int x0), (.int x1), (.int x2), (.int x3), (.int x4), (.int x5), (.int x6)] 7 = mkF m 0 #[.val (.int x0), .val (.int x1), .val (.int x2), .val (.int x3), .val (.int x4), .val (.int x5), .val (.int x6)] [] := by first | (simp [entryFrame, mkF, argsToLocals, Value.category]; done) | rfl
def Q7 (Z : State) (xq x1 y1 x2 y2 x3 y3 : Int32) (h0 : Heap) (n0 : Nat) (v : Option Value) (h : Heap) (L : List Loc) : Prop := v = some (.int (own_exp xq x1 y1 x2 y2 x3 y3)) ∧ Fr n0 L ∧ h = h0
set_option maxRecDepth 65536 in
set_option maxHeartbeats 40000000 in
theorem rm7 (l : Launch) (Z : State) (a0 : Array Value) (hw : ∀ d ∈ tables_1, d.before a0 Z = true) (ws : List Jvm.Cond) (xq x1 y1 x2 y2 x3 y3 : Int32) (h0 : Heap) (n0 : Nat) (Z0 : n0 ≤ h0.size) :
    MetFree l (⟨"com/example/dispatchwave/dispatchwave/model/VertexLabelsGetPinLaw", "expected", "(IIIIIII)I"⟩ : MethodName) (head1 (Jvm.Cond.code (⟨"com/example/dispatchwave/dispatchwave/model/VertexLabelsGetPinLaw", "expected", "(IIIIIII)I"⟩ : MethodName) method_3_code 7 (some .int) :: ws) ({ frames := 0, cells := 0, slots := 0, locals := 0 } : Room)) (fun a U => a = #[(.int xq), (.int x1), (.int y1), (.int x2), (.int y2), (.int x3), (.int y3)] ∧ Z.Warmed39 U.vm ∧ U.heap = h0) (fun _ _ _ _ _ => True) (fun _ U o U' => ∃ v L, o = .returned v ∧ Q7 Z xq x1 y1 x2 y2 x3 y3 h0 n0 v U'.heap L ∧ FrameEnd U o U' L ({ frames := 0, cells := 0, slots := 0, locals := 0 } : Room).cells ({ frames := 0, cells := 0, slots := 0, locals := 0 } : Room).slots) := by
  refine MetFree.of_bodySF (plainFor_of_name pn_VertexLabelsGetPinLaw) hisR ?_
  intro p e s m args below meth c s₁ Bd hml0 hP hK
  obtain ⟨rfl, hZ, hh⟩ := hP
  have hx := Bd.exec
  have hby := Bd.bytes
  have hml : c.maxLocals = 7 := hml0
  have hown : s.vm.findClass "com/example/dispatchwave/dispatchwave/model/VertexLabelsGetPinLaw" = some m.cls := findClass_of_methodNamed Bd.named
  have hnm := (name_of_methodNamed Bd.named Bd.method).1
  have hlk : meth.locks = false := BodyLoose.notSynchronized Bd
  have hret := Bd.returns
  have X0 : Stand p l e ({ frames := 0, cells := 0, slots := 0, locals := 0 } : Room) s m #[(.int xq), (.int x1), (.int y1), (.int x2), (.int y2), (.int x3), (.int y3)] below meth c s₁ [] 0 0 := Stand.of_body Bd
  have e0 : s₁.heap = h0 := by rw [← hh, Bd.state]; rfl
  have N0 := Fr.nil n0
  refine ogo (U' := s₁.setTop (mkF m 0 #[.val (.int xq), .val (.int x1), .val (.int y1), .val (.int x2), .val (.int y2), .val (.int x3), .val (.int y3)] [])) (Q := Q7 Z xq x1 y1 x2 y2 x3 y3 h0 n0) (K := ({ frames := 0, cells := 0, slots := 0, locals := 0 } : Room).cells) (N := ({ frames := 0, cells := 0, slots := 0, locals := 0 } : Room).slots) (fun t k => castTop (ef_7 m xq x1 y1 x2 y2 x3 y3) k) ?_
  show OwnEnds _ _ _ _ _ _ _ (s₁.setTop (mkF m 0 #[.val (.int xq), .val (.int x1), .val (.int y1), .val (.int x2), .val (.int y2), .val (.int x3), .val (.int y3)] []))
  refine ogo (fun t k => XS.iloadN X0.here hx rfl (hb hby d7_0) rfl k) ?_
  show OwnEnds _ _ _ _ _ _ _ (s₁.setTop (mkF m 1 #[.val (.int xq), .val (.int x1), .val (.int y1), .val (.int x2), .val (.int y2), .val (.int x3), .val (.int y3)] [(.int xq)]))
  refine ogo (fun t k => XS.iload X0.here hx rfl (hb hby d7_1) rfl k) ?_
  show OwnEnds _ _ _ _ _ _ _ (s₁.setTop (mkF m 3 #[.val (.int xq), .val (.int x1), .val (.int y1), .val (.int x2), .val (.int y2), .val (.int x3), .val (.int y3)] [(.int x3), (.int xq)]))
  by_cases hc1 : xq = x3
  · refine ogo (fun t k => XS.icmpNo X0.here hx rfl (hb hby d7_3) rfl (teq hc1).2 k) ?_
    show OwnEnds _ _ _ _ _ _ _ (s₁.setTop (mkF m 6 #[.val (.int xq), .val (.int x1), .val (.int y1), .val (.int x2), .val (.int y2), .val (.int x3), .val (.int y3)] []))
    refine ogo (fun t k => XS.iload X0.here hx rfl (hb hby d7_6) rfl k) ?_
    show OwnEnds _ _ _ _ _ _ _ (s₁.setTop (mkF m 8 #[.val (.int xq), .val (.int x1), .val (.int y1), .val (.int x2), .val (.int y2), .val (.int x3), .val (.int y3)] [(.int y3)]))
    refine endI X0 hx hlk hret (hb hby d7_8) (by decide) (by decide) ?_
    show Q7 Z xq x1 y1 x2 y2 x3 y3 h0 n0 _ s₁.heap _
    rw [e0]
    exact ⟨by unfold own_exp; rw [if_pos hc1], N0, rfl⟩
  · refine ogo (fun t k => XS.icmpYes X0.here hx rfl (pc0 := 3) (pc' := 9) rfl (hb hby d7_3) rfl (feq hc1).2 (by decide) (by decide) k) ?_
    show OwnEnds _ _ _ _ _ _ _ (s₁.setTop (mkF m 9 #[.val (.int xq), .val (.int x1), .val (.int y1), .val (.int x2), .val (.int y2), .val (.int x3), .val (.int y3)] []))
    refine ogo (fun t k => XS.iloadN X0.here hx rfl (hb hby d7_9) rfl k) ?_
    show OwnEnds _ _ _ _ _ _ _ (s₁.setTop (mkF m 10 #[.val (.int xq), .val (.int x1), .val (.int y1), .val (.int x2), .val (.int y2), .val (.int x3), .val (.int y3)] [(.int xq)]))
    refine ogo (fun t k => XS.iloadN X0.here hx rfl (hb hby d7_10) rfl k) ?_
    show OwnEnds _ _ _ _ _ _ _ (s₁.setTop (mkF m 11 #[.val (.int xq), .val (.int x1), .val (.int y1), .val (.int x2), .val (.int y2), .val (.int x3), .val (.int y3)] [(.int x2), (.int xq)]))
    by_cases hc2 : xq = x2
    · refine ogo (fun t k => XS.icmpNo X0.here hx rfl (hb hby d7_11) rfl (teq hc2).2 k) ?_
      show OwnEnds _ _ _ _ _ _ _ (s₁.setTop (mkF m 14 #[.val (.int xq), .val (.int x1), .val (.int y1), .val (.int x2), .val (.int y2), .val (.int x3), .val (.int y3)] []))
      refine ogo (fun t k => XS.iload X0.here hx rfl (hb hby d7_14) rfl k) ?_
      show OwnEnds _ _ _ _ _ _ _ (s₁.setTop (mkF m 16 #[.val (.int xq), .val (.int x1), .val (.int y1), .val (.int x2), .val (.int y2), .val (.int x3), .val (.int y3)] [(.int y2)]))
      refine endI X0 hx hlk hret (hb hby d7_16) (by decide) (by decide) ?_
      show Q7 Z xq x1 y1 x2 y2 x3 y3 h0 n0 _ s₁.heap _
      rw [e0]
      exact ⟨by unfold own_exp; rw [if_neg hc1, if_pos hc2], N0, rfl⟩
    · refine ogo (fun t k => XS.icmpYes X0.here hx rfl (pc0 := 11) (pc' := 17) rfl (hb hby d7_11) rfl (feq hc2).2 (by decide) (by decide) k) ?_
      show OwnEnds _ _ _ _ _ _ _ (s₁.setTop (mkF m 17 #[.val (.int xq), .val (.int x1), .val (.int y1), .val (.int x2), .val (.int y2), .val (.int x3), .val (.int y3)] []))
      refine ogo (fun t k => XS.iloadN X0.here hx rfl (hb hby d7_17) rfl k) ?_
      show OwnEnds _ _ _ _ _ _ _ (s₁.setTop (mkF m 18 #[.val (.int xq), .val (.int x1), .val (.int y1), .val (.int x2), .val (.int y2), .val (.int x3), .val (.int y3)] [(.int xq)]))
      refine ogo (fun t k => XS.iloadN X0.here hx rfl (hb hby d7_18) rfl k) ?_
      show OwnEnds _ _ _ _ _ _ _ (s₁.setTop (mkF m 19 #[.val (.int xq), .val (.int x1), .val (.int y1), .val (.int x2), .val (.int y2), .val (.int x3), .val (.int y3)] [(.int x1), (.int xq)]))
      by_cases hc3 : xq = x1
      · refine ogo (fun t k => XS.icmpNo X0.here hx rfl (hb hby d7_19) rfl (teq hc3).2 k) ?_
        show OwnEnds _ _ _ _ _ _ _ (s₁.setTop (mkF m 22 #[.val (.int xq), .val (.int x1), .val (.int y1), .val (.int x2), .val (.int y2), .val (.int x3), .val (.int y3)] []))
        refine ogo (fun t k => XS.iloadN X0.here hx rfl (hb hby d7_22) rfl k) ?_
        show OwnEnds _ _ _ _ _ _ _ (s₁.setTop (mkF m 23 #[.val (.int xq), .val (.int x1), .val (.int y1), .val (.int x2), .val (.int y2), .val (.int x3), .val (.int y3)] [(.int y1)]))
        refine endI X0 hx hlk hret (hb hby d7_23) (by decide) (by decide) ?_
        show Q7 Z xq x1 y1 x2 y2 x3 y3 h0 n0 _ s₁.heap _
        rw [e0]
        exact ⟨by unfold own_exp; rw [if_neg hc1, if_neg hc2, if_pos hc3], N0, rfl⟩
      · refine ogo (fun t k => XS.icmpYes X0.here hx rfl (pc0 := 19) (pc' := 24) rfl (hb hby d7_19) rfl (feq hc3).2 (by decide) (by decide) k) ?_
        show OwnEnds _ _ _ _ _ _ _ (s₁.setTop (mkF m 24 #[.val (.int xq), .val (.int x1), .val (.int y1), .val (.int x2), .val (.int y2), .val (.int x3), .val (.int y3)] []))
        refine ogo (fun t k => XS.iconst X0.here hx rfl (hb hby d7_24) k) ?_
        show OwnEnds _ _ _ _ _ _ _ (s₁.setTop (mkF m 25 #[.val (.int xq), .val (.int x1), .val (.int y1), .val (.int x2), .val (.int y2), .val (.int x3), .val (.int y3)] [(.int (0 : Int32))]))
        refine endI X0 hx hlk hret (hb hby d7_25) (by decide) (by decide) ?_
        show Q7 Z xq x1 y1 x2 y2 x3 y3 h0 n0 _ s₁.heap _
        rw [e0]
        exact ⟨by unfold own_exp; rw [if_neg hc1, if_neg hc2, if_neg hc3], N0, rfl⟩
theorem pd__I_V : parseMethodDescriptor "(I)V" = some ⟨[.int], none⟩ := by decide +kernel
theorem pd__I_I : parseMethodDescriptor "(I)I" = some ⟨[.int], some .int⟩ := by decide +kernel
theorem pd__II_V : parseMethodDescriptor "(II)V" = some ⟨[.int, .int], none⟩ := by decide +kernel
theorem pd__IIIIIII_I : parseMethodDescriptor "(IIIIIII)I" = some ⟨[.int, .int, .int, .int, .int, .int, .int], some .int⟩ := by decide +kernel
theorem ef_0 (m : MethodId) (x0 : Int32) (x1 : Int64) (x2 : Int32) (x3 : Int64) (x4 : Int32) (x5 : Int32) : entryFrame m #[(.int x0), (.long x1), (.int x2), (.long x3), (.int x4), (.int x5)] maxLocals = mkF m 0 #[.val (.int x0), .val (.long x1), .second, .val (.int x2), .val (.long x3), .second, .val (.int x4), .val (.int x5), .unset, .unset, .unset, .unset, .unset, .unset, .unset, .unset, .unset, .unset] [] := by first | (simp [entryFrame, mkF, argsToLocals, Value.category, maxLocals]; done) | rfl
def Q0 (Z : State) (p0 : Int32) (q1 : Int64) (p2 : Int32) (q3 : Int64) (p4 p5 : Int32) (h0 : Heap) (n0 : Nat) (v : Option Value) (h : Heap) (L : List Loc) : Prop := v = some (.int 1) ∧ Fr n0 L
set_option maxRecDepth 65536 in
set_option maxHeartbeats 40000000 in
theorem rm0 (l : Launch) (Z : State) (a0 : Array Value) (hw : ∀ d ∈ tables_1, d.before a0 Z = true) (ws : List Jvm.Cond) (p0 : Int32) (q1 : Int64) (p2 : Int32) (q3 : Int64) (p4 p5 : Int32) (h0 : Heap) (n0 : Nat) (Z0 : n0 ≤ h0.size) (OLD : Old Z n0 h0) :
    MetFree l x (head1 (Jvm.Cond.code x code maxLocals ret :: ws) room_1) (fun a U => a = #[(.int p0), (.long q1), (.int p2), (.long q3), (.int p4), (.int p5)] ∧ Z.Warmed39 U.vm ∧ U.heap = h0) (fun _ _ _ _ _ => True) (fun _ U o U' => ∃ v L, o = .returned v ∧ Q0 Z p0 q1 p2 q3 p4 p5 h0 n0 v U'.heap L ∧ FrameEnd U o U' L 24 1664) := by
  refine MetFree.of_bodySF (plainFor_of_name pn_VertexLabelsGetPinLaw) hisR ?_
  intro p e s m args below meth c s₁ Bd hml0 hP hK
  obtain ⟨rfl, hZ, hh⟩ := hP
  have hx := Bd.exec
  have hby := Bd.bytes
  have hml : c.maxLocals = 18 := hml0
  have hown : s.vm.findClass "com/example/dispatchwave/dispatchwave/model/VertexLabelsGetPinLaw" = some m.cls := findClass_of_methodNamed Bd.named
  have hnm := (name_of_methodNamed Bd.named Bd.method).1
  have hlk : meth.locks = false := BodyLoose.notSynchronized Bd
  have hret := Bd.returns
  have X0 : Stand p l e room_1 s m #[(.int p0), (.long q1), (.int p2), (.long q3), (.int p4), (.int p5)] below meth c s₁ [] 0 0 := Stand.of_body Bd
  have e0 : s₁.heap = h0 := by rw [← hh, Bd.state]; rfl
  have N0 := Fr.nil n0
  refine ogo (U' := s₁.setTop (mkF m 0 #[.val (.int p0), .val (.long q1), .second, .val (.int p2), .val (.long q3), .second, .val (.int p4), .val (.int p5), .unset, .unset, .unset, .unset, .unset, .unset, .unset, .unset, .unset, .unset] [])) (Q := Q0 Z p0 q1 p2 q3 p4 p5 h0 n0) (K := 24) (N := 1664) (fun t k => castTop (ef_0 m p0 q1 p2 q3 p4 p5) k) ?_
  show OwnEnds _ _ _ _ _ _ _ (s₁.setTop (mkF m 0 #[.val (.int p0), .val (.long q1), .second, .val (.int p2), .val (.long q3), .second, .val (.int p4), .val (.int p5), .unset, .unset, .unset, .unset, .unset, .unset, .unset, .unset, .unset, .unset] []))
  refine ogo (fun t k => XS.iloadN X0.here hx rfl (hb hby at_0) rfl k) ?_
  show OwnEnds _ _ _ _ _ _ _ (s₁.setTop (mkF m 1 #[.val (.int p0), .val (.long q1), .second, .val (.int p2), .val (.long q3), .second, .val (.int p4), .val (.int p5), .unset, .unset, .unset, .unset, .unset, .unset, .unset, .unset, .unset, .unset] [(.int p0)]))
  refine ogo (fun t k => XS.sipush X0.here hx rfl (hb hby at_1) k) ?_
  show OwnEnds _ _ _ _ _ _ _ (s₁.setTop (mkF m 4 #[.val (.int p0), .val (.long q1), .second, .val (.int p2), .val (.long q3), .second, .val (.int p4), .val (.int p5), .unset, .unset, .unset, .unset, .unset, .unset, .unset, .unset, .unset, .unset] [(.int (4095 : Int32)), (.int p0)]))
  refine ogo (fun t k => XS.iand X0.here hx rfl (hb hby at_4) rfl k) ?_
  show OwnEnds _ _ _ _ _ _ _ (s₁.setTop (mkF m 5 #[.val (.int p0), .val (.long q1), .second, .val (.int p2), .val (.long q3), .second, .val (.int p4), .val (.int p5), .unset, .unset, .unset, .unset, .unset, .unset, .unset, .unset, .unset, .unset] [(.int (p0 &&& (4095 : Int32)))]))
  refine ogo (fun t k => XS.iconst X0.here hx rfl (hb hby at_5) k) ?_
  show OwnEnds _ _ _ _ _ _ _ (s₁.setTop (mkF m 6 #[.val (.int p0), .val (.long q1), .second, .val (.int p2), .val (.long q3), .second, .val (.int p4), .val (.int p5), .unset, .unset, .unset, .unset, .unset, .unset, .unset, .unset, .unset, .unset] [(.int (1 : Int32)), (.int (p0 &&& (4095 : Int32)))]))
  refine ogo (fun t k => XS.iadd X0.here hx rfl (hb hby at_6) rfl k) ?_
  generalize hN : ((p0 &&& (4095 : Int32)) + (1 : Int32)) = n
  have hn : OkN n := hN ▸ own_okn p0
  show OwnEnds _ _ _ _ _ _ _ (s₁.setTop (mkF m 7 #[.val (.int p0), .val (.long q1), .second, .val (.int p2), .val (.long q3), .second, .val (.int p4), .val (.int p5), .unset, .unset, .unset, .unset, .unset, .unset, .unset, .unset, .unset, .unset] [(.int n)]))
  refine ogo (fun t k => XS.istore X0.here hx rfl (hb hby at_7) rfl (l' := #[.val (.int p0), .val (.long q1), .second, .val (.int p2), .val (.long q3), .second, .val (.int p4), .val (.int p5), .val (.int n), .unset, .unset, .unset, .unset, .unset, .unset, .unset, .unset, .unset]) rfl k) ?_
  show OwnEnds _ _ _ _ _ _ _ (s₁.setTop (mkF m 9 #[.val (.int p0), .val (.long q1), .second, .val (.int p2), .val (.long q3), .second, .val (.int p4), .val (.int p5), .val (.int n), .unset, .unset, .unset, .unset, .unset, .unset, .unset, .unset, .unset] []))
  refine ogo (fun t k => XS.lloadN X0.here hx rfl (hb hby at_9) rfl k) ?_
  show OwnEnds _ _ _ _ _ _ _ (s₁.setTop (mkF m 10 #[.val (.int p0), .val (.long q1), .second, .val (.int p2), .val (.long q3), .second, .val (.int p4), .val (.int p5), .val (.int n), .unset, .unset, .unset, .unset, .unset, .unset, .unset, .unset, .unset] [(.long q1)]))
  refine ogo (fun t k => XS.l2i X0.here hx rfl (hb hby at_10) rfl k) ?_
  show OwnEnds _ _ _ _ _ _ _ (s₁.setTop (mkF m 11 #[.val (.int p0), .val (.long q1), .second, .val (.int p2), .val (.long q3), .second, .val (.int p4), .val (.int p5), .val (.int n), .unset, .unset, .unset, .unset, .unset, .unset, .unset, .unset, .unset] [(.int (q1.toInt32))]))
  refine ogo (fun t k => XS.iload X0.here hx rfl (hb hby at_11) rfl k) ?_
  show OwnEnds _ _ _ _ _ _ _ (s₁.setTop (mkF m 13 #[.val (.int p0), .val (.long q1), .second, .val (.int p2), .val (.long q3), .second, .val (.int p4), .val (.int p5), .val (.int n), .unset, .unset, .unset, .unset, .unset, .unset, .unset, .unset, .unset] [(.int n), (.int (q1.toInt32))]))
  obtain ⟨v1, _, ⟨T1, L1, k1, n1⟩, -, X1, ⟨Lc1, hQ1, l1, y1, z1⟩, st1⟩ := Jvm.LawKit.callS X0 hx (y := (⟨"com/example/dispatchwave/dispatchwave/model/VertexLabelsGetPinLaw", "vertex", "(II)I"⟩ : MethodName)) hown (mvT hZ (hw _ (List.mem_of_getElem? (i := 0) rfl))) (mvT hZ (hw _ (List.mem_of_getElem? (i := 1) rfl))) (mvT hZ (hw _ (List.mem_of_getElem? (i := 2) rfl))) (mvT hZ (hw _ (List.mem_of_getElem? (i := 3) rfl))) (by decide) (backOf (W := 0) (rm6 l Z a0 hw [] (q1.toInt32) n h0 n0 Z0 (own_nz hn)) hZ (hw _ (List.mem_of_getElem? (i := 3) rfl)) (hw _ (List.mem_of_getElem? (i := 2) rfl)) (by decide) (by decide)) (g := (mkF m 13 #[.val (.int p0), .val (.long q1), .second, .val (.int p2), .val (.long q3), .second, .val (.int p4), .val (.int p5), .val (.int n), .unset, .unset, .unset, .unset, .unset, .unset, .unset, .unset, .unset] [(.int n), (.int (q1.toInt32))])) rfl (by rw [hml]; rfl) (argsL := [(.int (q1.toInt32)), (.int n)]) (rest := []) (lenOf pd__II_I rfl) rfl (by show 2 * 0 + _ ≤ _; exact Nat.le_of_eq rfl) (hb hby at_13) (fun _ _ => ⟨rfl, e0, (by decide : 0 + 0 ≤ _), (by decide : 0 + 0 ≤ _)⟩)
  dsimp only [Pt.U, Pt.locs, Pt.cells, Pt.slots] at X1 l1 y1 z1 st1 hQ1
  subst l1 y1 z1
  obtain ⟨hv1, N1q, e1⟩ := hQ1
  obtain ⟨vA, hvA⟩ : ∃ x, x = own_vx (q1.toInt32) n := ⟨_, rfl⟩
  have ivA : InN n vA := hvA ▸ own_vx_in hn
  obtain rfl : v1 = some (.int vA) := hv1.trans (by rw [hvA])
  have N1 := Fr.app N0 N1q
  refine ogo (fun t k => st1 t k) ?_
  show OwnEnds _ _ _ _ _ _ _ (T1.setTop (mkF m 16 #[.val (.int p0), .val (.long q1), .second, .val (.int p2), .val (.long q3), .second, .val (.int p4), .val (.int p5), .val (.int n), .unset, .unset, .unset, .unset, .unset, .unset, .unset, .unset, .unset] [(.int vA)]))
  refine ogo (fun t k => XS.istore X1.here hx rfl (hb hby at_16) rfl (l' := #[.val (.int p0), .val (.long q1), .second, .val (.int p2), .val (.long q3), .second, .val (.int p4), .val (.int p5), .val (.int n), .val (.int vA), .unset, .unset, .unset, .unset, .unset, .unset, .unset, .unset]) rfl k) ?_
  show OwnEnds _ _ _ _ _ _ _ (T1.setTop (mkF m 18 #[.val (.int p0), .val (.long q1), .second, .val (.int p2), .val (.long q3), .second, .val (.int p4), .val (.int p5), .val (.int n), .val (.int vA), .unset, .unset, .unset, .unset, .unset, .unset, .unset, .unset] []))
  refine ogo (fun t k => XS.lloadN X1.here hx rfl (hb hby at_18) rfl k) ?_
  show OwnEnds _ _ _ _ _ _ _ (T1.setTop (mkF m 19 #[.val (.int p0), .val (.long q1), .second, .val (.int p2), .val (.long q3), .second, .val (.int p4), .val (.int p5), .val (.int n), .val (.int vA), .unset, .unset, .unset, .unset, .unset, .unset, .unset, .unset] [(.long q1)]))
  refine ogo (fun t k => XS.bipush X1.here hx rfl (hb hby at_19) k) ?_
  show OwnEnds _ _ _ _ _ _ _ (T1.setTop (mkF m 21 #[.val (.int p0), .val (.long q1), .second, .val (.int p2), .val (.long q3), .second, .val (.int p4), .val (.int p5), .val (.int n), .val (.int vA), .unset, .unset, .unset, .unset, .unset, .unset, .unset, .unset] [(.int (32 : Int32)), (.long q1)]))
  refine ogo (fun t k => XS.lushr X1.here hx rfl (hb hby at_21) rfl k) ?_
  show OwnEnds _ _ _ _ _ _ _ (T1.setTop (mkF m 22 #[.val (.int p0), .val (.long q1), .second, .val (.int p2), .val (.long q3), .second, .val (.int p4), .val (.int p5), .val (.int n), .val (.int vA), .unset, .unset, .unset, .unset, .unset, .unset, .unset, .unset] [(.long ((q1.toUInt64 >>> ((32 : Int32) &&& 0x3f).toInt64.toUInt64).toInt64))]))
  refine ogo (fun t k => XS.l2i X1.here hx rfl (hb hby at_22) rfl k) ?_
  show OwnEnds _ _ _ _ _ _ _ (T1.setTop (mkF m 23 #[.val (.int p0), .val (.long q1), .second, .val (.int p2), .val (.long q3), .second, .val (.int p4), .val (.int p5), .val (.int n), .val (.int vA), .unset, .unset, .unset, .unset, .unset, .unset, .unset, .unset] [(.int (((q1.toUInt64 >>> ((32 : Int32) &&& 0x3f).toInt64.toUInt64).toInt64).toInt32))]))
  refine ogo (fun t k => XS.iload X1.here hx rfl (hb hby at_23) rfl k) ?_
  show OwnEnds _ _ _ _ _ _ _ (T1.setTop (mkF m 25 #[.val (.int p0), .val (.long q1), .second, .val (.int p2), .val (.long q3), .second, .val (.int p4), .val (.int p5), .val (.int n), .val (.int vA), .unset, .unset, .unset, .unset, .unset, .unset, .unset, .unset] [(.int n), (.int (((q1.toUInt64 >>> ((32 : Int32) &&& 0x3f).toInt64.toUInt64).toInt64).toInt32))]))
  obtain ⟨v2, _, ⟨T2, L2, k2, n2⟩, -, X2, ⟨Lc2, hQ2, l2, y2, z2⟩, st2⟩ := Jvm.LawKit.callS X1 hx (y := (⟨"com/example/dispatchwave/dispatchwave/model/VertexLabelsGetPinLaw", "vertex", "(II)I"⟩ : MethodName)) hown (mvT hZ (hw _ (List.mem_of_getElem? (i := 0) rfl))) (mvT hZ (hw _ (List.mem_of_getElem? (i := 1) rfl))) (mvT hZ (hw _ (List.mem_of_getElem? (i := 2) rfl))) (mvT hZ (hw _ (List.mem_of_getElem? (i := 3) rfl))) (by decide) (backOf (W := 0) (rm6 l Z a0 hw [] (((q1.toUInt64 >>> ((32 : Int32) &&& 0x3f).toInt64.toUInt64).toInt64).toInt32) n h0 n0 Z0 (own_nz hn)) hZ (hw _ (List.mem_of_getElem? (i := 3) rfl)) (hw _ (List.mem_of_getElem? (i := 2) rfl)) (by decide) (by decide)) (g := (mkF m 25 #[.val (.int p0), .val (.long q1), .second, .val (.int p2), .val (.long q3), .second, .val (.int p4), .val (.int p5), .val (.int n), .val (.int vA), .unset, .unset, .unset, .unset, .unset, .unset, .unset, .unset] [(.int n), (.int (((q1.toUInt64 >>> ((32 : Int32) &&& 0x3f).toInt64.toUInt64).toInt64).toInt32))])) rfl (by rw [hml]; rfl) (argsL := [(.int (((q1.toUInt64 >>> ((32 : Int32) &&& 0x3f).toInt64.toUInt64).toInt64).toInt32)), (.int n)]) (rest := []) (lenOf pd__II_I rfl) rfl (by show 2 * 0 + _ ≤ _; exact Nat.le_of_eq rfl) (hb hby at_25) (fun _ _ => ⟨rfl, e1, (by decide : 0 + 0 ≤ _), (by decide : 0 + 0 ≤ _)⟩)
  dsimp only [Pt.U, Pt.locs, Pt.cells, Pt.slots] at X2 l2 y2 z2 st2 hQ2
  subst l2 y2 z2
  obtain ⟨hv2, N2q, e2⟩ := hQ2
  obtain ⟨vB, hvB⟩ : ∃ x, x = own_vx (((q1.toUInt64 >>> ((32 : Int32) &&& 0x3f).toInt64.toUInt64).toInt64).toInt32) n := ⟨_, rfl⟩
  have ivB : InN n vB := hvB ▸ own_vx_in hn
  obtain rfl : v2 = some (.int vB) := hv2.trans (by rw [hvB])
  have N2 := Fr.app N1 N2q
  refine ogo (fun t k => st2 t k) ?_
  show OwnEnds _ _ _ _ _ _ _ (T2.setTop (mkF m 28 #[.val (.int p0), .val (.long q1), .second, .val (.int p2), .val (.long q3), .second, .val (.int p4), .val (.int p5), .val (.int n), .val (.int vA), .unset, .unset, .unset, .unset, .unset, .unset, .unset, .unset] [(.int vB)]))
  refine ogo (fun t k => XS.istore X2.here hx rfl (hb hby at_28) rfl (l' := #[.val (.int p0), .val (.long q1), .second, .val (.int p2), .val (.long q3), .second, .val (.int p4), .val (.int p5), .val (.int n), .val (.int vA), .val (.int vB), .unset, .unset, .unset, .unset, .unset, .unset, .unset]) rfl k) ?_
  show OwnEnds _ _ _ _ _ _ _ (T2.setTop (mkF m 30 #[.val (.int p0), .val (.long q1), .second, .val (.int p2), .val (.long q3), .second, .val (.int p4), .val (.int p5), .val (.int n), .val (.int vA), .val (.int vB), .unset, .unset, .unset, .unset, .unset, .unset, .unset] []))
  refine ogo (fun t k => XS.iloadN X2.here hx rfl (hb hby at_30) rfl k) ?_
  show OwnEnds _ _ _ _ _ _ _ (T2.setTop (mkF m 31 #[.val (.int p0), .val (.long q1), .second, .val (.int p2), .val (.long q3), .second, .val (.int p4), .val (.int p5), .val (.int n), .val (.int vA), .val (.int vB), .unset, .unset, .unset, .unset, .unset, .unset, .unset] [(.int p2)]))
  refine ogo (fun t k => XS.iload X2.here hx rfl (hb hby at_31) rfl k) ?_
  show OwnEnds _ _ _ _ _ _ _ (T2.setTop (mkF m 33 #[.val (.int p0), .val (.long q1), .second, .val (.int p2), .val (.long q3), .second, .val (.int p4), .val (.int p5), .val (.int n), .val (.int vA), .val (.int vB), .unset, .unset, .unset, .unset, .unset, .unset, .unset] [(.int n), (.int p2)]))
  obtain ⟨v3, _, ⟨T3, L3, k3, n3⟩, -, X3, ⟨Lc3, hQ3, l3, y3, z3⟩, st3⟩ := Jvm.LawKit.callS X2 hx (y := (⟨"com/example/dispatchwave/dispatchwave/model/VertexLabelsGetPinLaw", "vertex", "(II)I"⟩ : MethodName)) hown (mvT hZ (hw _ (List.mem_of_getElem? (i := 0) rfl))) (mvT hZ (hw _ (List.mem_of_getElem? (i := 1) rfl))) (mvT hZ (hw _ (List.mem_of_getElem? (i := 2) rfl))) (mvT hZ (hw _ (List.mem_of_getElem? (i := 3) rfl))) (by decide) (backOf (W := 0) (rm6 l Z a0 hw [] p2 n h0 n0 Z0 (own_nz hn)) hZ (hw _ (List.mem_of_getElem? (i := 3) rfl)) (hw _ (List.mem_of_getElem? (i := 2) rfl)) (by decide) (by decide)) (g := (mkF m 33 #[.val (.int p0), .val (.long q1), .second, .val (.int p2), .val (.long q3), .second, .val (.int p4), .val (.int p5), .val (.int n), .val (.int vA), .val (.int vB), .unset, .unset, .unset, .unset, .unset, .unset, .unset] [(.int n), (.int p2)])) rfl (by rw [hml]; rfl) (argsL := [(.int p2), (.int n)]) (rest := []) (lenOf pd__II_I rfl) rfl (by show 2 * 0 + _ ≤ _; exact Nat.le_of_eq rfl) (hb hby at_33) (fun _ _ => ⟨rfl, e2, (by decide : 0 + 0 ≤ _), (by decide : 0 + 0 ≤ _)⟩)
  dsimp only [Pt.U, Pt.locs, Pt.cells, Pt.slots] at X3 l3 y3 z3 st3 hQ3
  subst l3 y3 z3
  obtain ⟨hv3, N3q, e3⟩ := hQ3
  obtain ⟨vC, hvC⟩ : ∃ x, x = own_vx p2 n := ⟨_, rfl⟩
  have ivC : InN n vC := hvC ▸ own_vx_in hn
  obtain rfl : v3 = some (.int vC) := hv3.trans (by rw [hvC])
  have N3 := Fr.app N2 N3q
  refine ogo (fun t k => st3 t k) ?_
  show OwnEnds _ _ _ _ _ _ _ (T3.setTop (mkF m 36 #[.val (.int p0), .val (.long q1), .second, .val (.int p2), .val (.long q3), .second, .val (.int p4), .val (.int p5), .val (.int n), .val (.int vA), .val (.int vB), .unset, .unset, .unset, .unset, .unset, .unset, .unset] [(.int vC)]))
  refine ogo (fun t k => XS.istore X3.here hx rfl (hb hby at_36) rfl (l' := #[.val (.int p0), .val (.long q1), .second, .val (.int p2), .val (.long q3), .second, .val (.int p4), .val (.int p5), .val (.int n), .val (.int vA), .val (.int vB), .val (.int vC), .unset, .unset, .unset, .unset, .unset, .unset]) rfl k) ?_
  show OwnEnds _ _ _ _ _ _ _ (T3.setTop (mkF m 38 #[.val (.int p0), .val (.long q1), .second, .val (.int p2), .val (.long q3), .second, .val (.int p4), .val (.int p5), .val (.int n), .val (.int vA), .val (.int vB), .val (.int vC), .unset, .unset, .unset, .unset, .unset, .unset] []))
  refine ogo (fun t k => XS.lload X3.here hx rfl (hb hby at_38) rfl k) ?_
  show OwnEnds _ _ _ _ _ _ _ (T3.setTop (mkF m 40 #[.val (.int p0), .val (.long q1), .second, .val (.int p2), .val (.long q3), .second, .val (.int p4), .val (.int p5), .val (.int n), .val (.int vA), .val (.int vB), .val (.int vC), .unset, .unset, .unset, .unset, .unset, .unset] [(.long q3)]))
  refine ogo (fun t k => XS.l2i X3.here hx rfl (hb hby at_40) rfl k) ?_
  show OwnEnds _ _ _ _ _ _ _ (T3.setTop (mkF m 41 #[.val (.int p0), .val (.long q1), .second, .val (.int p2), .val (.long q3), .second, .val (.int p4), .val (.int p5), .val (.int n), .val (.int vA), .val (.int vB), .val (.int vC), .unset, .unset, .unset, .unset, .unset, .unset] [(.int (q3.toInt32))]))
  refine ogo (fun t k => XS.istore X3.here hx rfl (hb hby at_41) rfl (l' := #[.val (.int p0), .val (.long q1), .second, .val (.int p2), .val (.long q3), .second, .val (.int p4), .val (.int p5), .val (.int n), .val (.int vA), .val (.int vB), .val (.int vC), .val (.int (q3.toInt32)), .unset, .unset, .unset, .unset, .unset]) rfl k) ?_
  show OwnEnds _ _ _ _ _ _ _ (T3.setTop (mkF m 43 #[.val (.int p0), .val (.long q1), .second, .val (.int p2), .val (.long q3), .second, .val (.int p4), .val (.int p5), .val (.int n), .val (.int vA), .val (.int vB), .val (.int vC), .val (.int (q3.toInt32)), .unset, .unset, .unset, .unset, .unset] []))
  refine ogo (fun t k => XS.lload X3.here hx rfl (hb hby at_43) rfl k) ?_
  show OwnEnds _ _ _ _ _ _ _ (T3.setTop (mkF m 45 #[.val (.int p0), .val (.long q1), .second, .val (.int p2), .val (.long q3), .second, .val (.int p4), .val (.int p5), .val (.int n), .val (.int vA), .val (.int vB), .val (.int vC), .val (.int (q3.toInt32)), .unset, .unset, .unset, .unset, .unset] [(.long q3)]))
  refine ogo (fun t k => XS.bipush X3.here hx rfl (hb hby at_45) k) ?_
  show OwnEnds _ _ _ _ _ _ _ (T3.setTop (mkF m 47 #[.val (.int p0), .val (.long q1), .second, .val (.int p2), .val (.long q3), .second, .val (.int p4), .val (.int p5), .val (.int n), .val (.int vA), .val (.int vB), .val (.int vC), .val (.int (q3.toInt32)), .unset, .unset, .unset, .unset, .unset] [(.int (32 : Int32)), (.long q3)]))
  refine ogo (fun t k => XS.lushr X3.here hx rfl (hb hby at_47) rfl k) ?_
  show OwnEnds _ _ _ _ _ _ _ (T3.setTop (mkF m 48 #[.val (.int p0), .val (.long q1), .second, .val (.int p2), .val (.long q3), .second, .val (.int p4), .val (.int p5), .val (.int n), .val (.int vA), .val (.int vB), .val (.int vC), .val (.int (q3.toInt32)), .unset, .unset, .unset, .unset, .unset] [(.long ((q3.toUInt64 >>> ((32 : Int32) &&& 0x3f).toInt64.toUInt64).toInt64))]))
  refine ogo (fun t k => XS.l2i X3.here hx rfl (hb hby at_48) rfl k) ?_
  show OwnEnds _ _ _ _ _ _ _ (T3.setTop (mkF m 49 #[.val (.int p0), .val (.long q1), .second, .val (.int p2), .val (.long q3), .second, .val (.int p4), .val (.int p5), .val (.int n), .val (.int vA), .val (.int vB), .val (.int vC), .val (.int (q3.toInt32)), .unset, .unset, .unset, .unset, .unset] [(.int (((q3.toUInt64 >>> ((32 : Int32) &&& 0x3f).toInt64.toUInt64).toInt64).toInt32))]))
  refine ogo (fun t k => XS.istore X3.here hx rfl (hb hby at_49) rfl (l' := #[.val (.int p0), .val (.long q1), .second, .val (.int p2), .val (.long q3), .second, .val (.int p4), .val (.int p5), .val (.int n), .val (.int vA), .val (.int vB), .val (.int vC), .val (.int (q3.toInt32)), .val (.int (((q3.toUInt64 >>> ((32 : Int32) &&& 0x3f).toInt64.toUInt64).toInt64).toInt32)), .unset, .unset, .unset, .unset]) rfl k) ?_
  show OwnEnds _ _ _ _ _ _ _ (T3.setTop (mkF m 51 #[.val (.int p0), .val (.long q1), .second, .val (.int p2), .val (.long q3), .second, .val (.int p4), .val (.int p5), .val (.int n), .val (.int vA), .val (.int vB), .val (.int vC), .val (.int (q3.toInt32)), .val (.int (((q3.toUInt64 >>> ((32 : Int32) &&& 0x3f).toInt64.toUInt64).toInt64).toInt32)), .unset, .unset, .unset, .unset] []))
  refine ogo (fun t k => XS.iload X3.here hx rfl (hb hby at_51) rfl k) ?_
  show OwnEnds _ _ _ _ _ _ _ (T3.setTop (mkF m 53 #[.val (.int p0), .val (.long q1), .second, .val (.int p2), .val (.long q3), .second, .val (.int p4), .val (.int p5), .val (.int n), .val (.int vA), .val (.int vB), .val (.int vC), .val (.int (q3.toInt32)), .val (.int (((q3.toUInt64 >>> ((32 : Int32) &&& 0x3f).toInt64.toUInt64).toInt64).toInt32)), .unset, .unset, .unset, .unset] [(.int p5)]))
  refine ogo (fun t k => XS.iconst X3.here hx rfl (hb hby at_53) k) ?_
  show OwnEnds _ _ _ _ _ _ _ (T3.setTop (mkF m 54 #[.val (.int p0), .val (.long q1), .second, .val (.int p2), .val (.long q3), .second, .val (.int p4), .val (.int p5), .val (.int n), .val (.int vA), .val (.int vB), .val (.int vC), .val (.int (q3.toInt32)), .val (.int (((q3.toUInt64 >>> ((32 : Int32) &&& 0x3f).toInt64.toUInt64).toInt64).toInt32)), .unset, .unset, .unset, .unset] [(.int (3 : Int32)), (.int p5)]))
  refine ogo (fun t k => XS.iand X3.here hx rfl (hb hby at_54) rfl k) ?_
  show OwnEnds _ _ _ _ _ _ _ (T3.setTop (mkF m 55 #[.val (.int p0), .val (.long q1), .second, .val (.int p2), .val (.long q3), .second, .val (.int p4), .val (.int p5), .val (.int n), .val (.int vA), .val (.int vB), .val (.int vC), .val (.int (q3.toInt32)), .val (.int (((q3.toUInt64 >>> ((32 : Int32) &&& 0x3f).toInt64.toUInt64).toInt64).toInt32)), .unset, .unset, .unset, .unset] [(.int (p5 &&& (3 : Int32)))]))
  refine ogo (fun t k => XS.istore X3.here hx rfl (hb hby at_55) rfl (l' := #[.val (.int p0), .val (.long q1), .second, .val (.int p2), .val (.long q3), .second, .val (.int p4), .val (.int p5), .val (.int n), .val (.int vA), .val (.int vB), .val (.int vC), .val (.int (q3.toInt32)), .val (.int (((q3.toUInt64 >>> ((32 : Int32) &&& 0x3f).toInt64.toUInt64).toInt64).toInt32)), .val (.int (p5 &&& (3 : Int32))), .unset, .unset, .unset]) rfl k) ?_
  show OwnEnds _ _ _ _ _ _ _ (T3.setTop (mkF m 57 #[.val (.int p0), .val (.long q1), .second, .val (.int p2), .val (.long q3), .second, .val (.int p4), .val (.int p5), .val (.int n), .val (.int vA), .val (.int vB), .val (.int vC), .val (.int (q3.toInt32)), .val (.int (((q3.toUInt64 >>> ((32 : Int32) &&& 0x3f).toInt64.toUInt64).toInt64).toInt32)), .val (.int (p5 &&& (3 : Int32))), .unset, .unset, .unset] []))
  refine ogo (fun t k => XS.iload X3.here hx rfl (hb hby at_57) rfl k) ?_
  show OwnEnds _ _ _ _ _ _ _ (T3.setTop (mkF m 59 #[.val (.int p0), .val (.long q1), .second, .val (.int p2), .val (.long q3), .second, .val (.int p4), .val (.int p5), .val (.int n), .val (.int vA), .val (.int vB), .val (.int vC), .val (.int (q3.toInt32)), .val (.int (((q3.toUInt64 >>> ((32 : Int32) &&& 0x3f).toInt64.toUInt64).toInt64).toInt32)), .val (.int (p5 &&& (3 : Int32))), .unset, .unset, .unset] [(.int (p5 &&& (3 : Int32)))]))
  by_cases hc4 : (p5 &&& (3 : Int32)) = (0 : Int32)
  · refine ogo (fun t k => XS.ifNo X3.here hx rfl (hb hby at_59) rfl ((if0 _ _).trans (teq hc4).2) k) ?_
    show OwnEnds _ _ _ _ _ _ _ (T3.setTop (mkF m 62 #[.val (.int p0), .val (.long q1), .second, .val (.int p2), .val (.long q3), .second, .val (.int p4), .val (.int p5), .val (.int n), .val (.int vA), .val (.int vB), .val (.int vC), .val (.int (q3.toInt32)), .val (.int (((q3.toUInt64 >>> ((32 : Int32) &&& 0x3f).toInt64.toUInt64).toInt64).toInt32)), .val (.int (p5 &&& (3 : Int32))), .unset, .unset, .unset] []))
    refine ogo (fun t k => XS.iload X3.here hx rfl (hb hby at_62) rfl k) ?_
    show OwnEnds _ _ _ _ _ _ _ (T3.setTop (mkF m 64 #[.val (.int p0), .val (.long q1), .second, .val (.int p2), .val (.long q3), .second, .val (.int p4), .val (.int p5), .val (.int n), .val (.int vA), .val (.int vB), .val (.int vC), .val (.int (q3.toInt32)), .val (.int (((q3.toUInt64 >>> ((32 : Int32) &&& 0x3f).toInt64.toUInt64).toInt64).toInt32)), .val (.int (p5 &&& (3 : Int32))), .unset, .unset, .unset] [(.int vA)]))
    refine ogo (fun t k => XS.istore X3.here hx rfl (hb hby at_64) rfl (l' := #[.val (.int p0), .val (.long q1), .second, .val (.int p2), .val (.long q3), .second, .val (.int p4), .val (.int p5), .val (.int n), .val (.int vA), .val (.int vB), .val (.int vC), .val (.int (q3.toInt32)), .val (.int (((q3.toUInt64 >>> ((32 : Int32) &&& 0x3f).toInt64.toUInt64).toInt64).toInt32)), .val (.int (p5 &&& (3 : Int32))), .val (.int vA), .unset, .unset]) rfl k) ?_
    show OwnEnds _ _ _ _ _ _ _ (T3.setTop (mkF m 66 #[.val (.int p0), .val (.long q1), .second, .val (.int p2), .val (.long q3), .second, .val (.int p4), .val (.int p5), .val (.int n), .val (.int vA), .val (.int vB), .val (.int vC), .val (.int (q3.toInt32)), .val (.int (((q3.toUInt64 >>> ((32 : Int32) &&& 0x3f).toInt64.toUInt64).toInt64).toInt32)), .val (.int (p5 &&& (3 : Int32))), .val (.int vA), .unset, .unset] []))
    refine ogo (fun t k => XS.goto X3.here hx rfl (pc0 := 66) (pc' := 106) rfl (hb hby at_66) (by decide) (by decide) k) ?_
    show OwnEnds _ _ _ _ _ _ _ (T3.setTop (mkF m 106 #[.val (.int p0), .val (.long q1), .second, .val (.int p2), .val (.long q3), .second, .val (.int p4), .val (.int p5), .val (.int n), .val (.int vA), .val (.int vB), .val (.int vC), .val (.int (q3.toInt32)), .val (.int (((q3.toUInt64 >>> ((32 : Int32) &&& 0x3f).toInt64.toUInt64).toInt64).toInt32)), .val (.int (p5 &&& (3 : Int32))), .val (.int vA), .unset, .unset] []))
    obtain ⟨T5, h5, X5, e5, E5, A5, D5, -, st5⟩ := newO X3 hx hZ hown (hw _ (List.mem_of_getElem? (i := 5) rfl)) (hw _ (List.mem_of_getElem? (i := 6) rfl)) (hw _ (List.mem_of_getElem? (i := 7) rfl)) e3 (g := (mkF m 106 #[.val (.int p0), .val (.long q1), .second, .val (.int p2), .val (.long q3), .second, .val (.int p4), .val (.int p5), .val (.int n), .val (.int vA), .val (.int vB), .val (.int vC), .val (.int (q3.toInt32)), .val (.int (((q3.toUInt64 >>> ((32 : Int32) &&& 0x3f).toInt64.toUInt64).toInt64).toInt32)), .val (.int (p5 &&& (3 : Int32))), .val (.int vA), .unset, .unset] [])) rfl (hb hby at_106) (by decide) (by decide)
    obtain ⟨b5, g5⟩ : ∃ z, z = h0.size := ⟨_, rfl⟩
    rw [← g5] at A5 D5 st5
    have q_b5 : n0 ≤ b5 := Nat.le_trans Z0 (Nat.le_of_eq g5.symm)
    have OLD6 := OLD.ext E5
    have Z6 := Nat.le_trans Z0 E5.1
    have f7 : Fld Z h5 b5 "com/example/dispatchwave/dispatchwave/model/VertexLabels" "vertexCount" "I" (.int (0 : Int32)) := D5 (Or.inr (hw _ (List.mem_of_getElem? (i := 15) rfl))) (ty := .int) (by decide)
    have f8 : Fld Z h5 b5 "com/example/dispatchwave/dispatchwave/model/VertexLabels" "pages" "[[I" .null := D5 (Or.inl (hw _ (List.mem_of_getElem? (i := 19) rfl))) (ty := (.array (.array .int))) (by decide)
    have f9 : Fld Z h5 b5 "com/example/dispatchwave/dispatchwave/model/VertexLabels" "array" "[I" .null := D5 (Or.inl (hw _ (List.mem_of_getElem? (i := 26) rfl))) (ty := (.array .int)) (by decide)
    have f10 : Fld Z h5 b5 "com/example/dispatchwave/dispatchwave/model/VertexLabels" "made" "I" (.int (0 : Int32)) := D5 (Or.inl (hw _ (List.mem_of_getElem? (i := 38) rfl))) (ty := .int) (by decide)
    refine ogo st5 ?_
    show OwnEnds _ _ _ _ _ _ _ (T5.setTop (mkF m 109 #[.val (.int p0), .val (.long q1), .second, .val (.int p2), .val (.long q3), .second, .val (.int p4), .val (.int p5), .val (.int n), .val (.int vA), .val (.int vB), .val (.int vC), .val (.int (q3.toInt32)), .val (.int (((q3.toUInt64 >>> ((32 : Int32) &&& 0x3f).toInt64.toUInt64).toInt64).toInt32)), .val (.int (p5 &&& (3 : Int32))), .val (.int vA), .unset, .unset] [(.ref b5)]))
    refine ogo (fun t k => XS.dup X5.here hx rfl (hb hby at_109) rfl rfl k) ?_
    show OwnEnds _ _ _ _ _ _ _ (T5.setTop (mkF m 110 #[.val (.int p0), .val (.long q1), .second, .val (.int p2), .val (.long q3), .second, .val (.int p4), .val (.int p5), .val (.int n), .val (.int vA), .val (.int vB), .val (.int vC), .val (.int (q3.toInt32)), .val (.int (((q3.toUInt64 >>> ((32 : Int32) &&& 0x3f).toInt64.toUInt64).toInt64).toInt32)), .val (.int (p5 &&& (3 : Int32))), .val (.int vA), .unset, .unset] [(.ref b5), (.ref b5)]))
    refine ogo (fun t k => XS.iload X5.here hx rfl (hb hby at_110) rfl k) ?_
    show OwnEnds _ _ _ _ _ _ _ (T5.setTop (mkF m 112 #[.val (.int p0), .val (.long q1), .second, .val (.int p2), .val (.long q3), .second, .val (.int p4), .val (.int p5), .val (.int n), .val (.int vA), .val (.int vB), .val (.int vC), .val (.int (q3.toInt32)), .val (.int (((q3.toUInt64 >>> ((32 : Int32) &&& 0x3f).toInt64.toUInt64).toInt64).toInt32)), .val (.int (p5 &&& (3 : Int32))), .val (.int vA), .unset, .unset] [(.int n), (.ref b5), (.ref b5)]))
    obtain ⟨v11, _, ⟨T11, L11, k11, n11⟩, -, X11, ⟨Lc11, hQ11, l11, y11, z11⟩, st11⟩ := X5.specialBack hx (y := (⟨"com/example/dispatchwave/dispatchwave/model/VertexLabels", "<init>", "(I)V"⟩ : MethodName)) rfl hown (mvT hZ (hw _ (List.mem_of_getElem? (i := 8) rfl))) (mvT hZ (hw _ (List.mem_of_getElem? (i := 9) rfl))) (mvT hZ (hw _ (List.mem_of_getElem? (i := 10) rfl))) (by decide) (backOf (W := 1) (rm1 l Z a0 hw [] b5 n h5 n0 Z6 OLD6 A5 f7 f8 f9 f10 q_b5 hn) hZ (hw _ (List.mem_of_getElem? (i := 10) rfl)) (hw _ (List.mem_of_getElem? (i := 7) rfl)) (by decide) (by decide)) (g := (mkF m 112 #[.val (.int p0), .val (.long q1), .second, .val (.int p2), .val (.long q3), .second, .val (.int p4), .val (.int p5), .val (.int n), .val (.int vA), .val (.int vB), .val (.int vC), .val (.int (q3.toInt32)), .val (.int (((q3.toUInt64 >>> ((32 : Int32) &&& 0x3f).toInt64.toUInt64).toInt64).toInt32)), .val (.int (p5 &&& (3 : Int32))), .val (.int vA), .unset, .unset] [(.int n), (.ref b5), (.ref b5)])) rfl (by rw [hml]; rfl) (Steps.refl _) (a := b5) (argsL := [(.int n)]) (rest := [(.ref b5)]) (lenOf pd__I_V rfl) rfl (by show 2 * 0 + _ ≤ _; exact Nat.le_of_eq rfl) (hb hby at_112) (fun _ _ => ⟨rfl, e5, (by decide : 1 + 1 ≤ _), (by decide : 4 + 65 ≤ _)⟩)
    dsimp only [Pt.U, Pt.locs, Pt.cells, Pt.slots] at X11 l11 y11 z11 st11 hQ11
    subst l11 y11 z11
    obtain ⟨rfl, N11q, OLD11, Z11, hL11⟩ := hQ11
    have N11 := Fr.app N3 N11q
    have E11a := hL11.1.2.1
    refine ogo (fun t k => st11.trans k) ?_
    show OwnEnds _ _ _ _ _ _ _ (T11.setTop (mkF m 115 #[.val (.int p0), .val (.long q1), .second, .val (.int p2), .val (.long q3), .second, .val (.int p4), .val (.int p5), .val (.int n), .val (.int vA), .val (.int vB), .val (.int vC), .val (.int (q3.toInt32)), .val (.int (((q3.toUInt64 >>> ((32 : Int32) &&& 0x3f).toInt64.toUInt64).toInt64).toInt32)), .val (.int (p5 &&& (3 : Int32))), .val (.int vA), .unset, .unset] [(.ref b5)]))
    refine ogo (fun t k => XS.astore X11.here hx rfl (hb hby at_115) rfl rfl (l' := #[.val (.int p0), .val (.long q1), .second, .val (.int p2), .val (.long q3), .second, .val (.int p4), .val (.int p5), .val (.int n), .val (.int vA), .val (.int vB), .val (.int vC), .val (.int (q3.toInt32)), .val (.int (((q3.toUInt64 >>> ((32 : Int32) &&& 0x3f).toInt64.toUInt64).toInt64).toInt32)), .val (.int (p5 &&& (3 : Int32))), .val (.int vA), .val (.ref b5), .unset]) rfl k) ?_
    show OwnEnds _ _ _ _ _ _ _ (T11.setTop (mkF m 117 #[.val (.int p0), .val (.long q1), .second, .val (.int p2), .val (.long q3), .second, .val (.int p4), .val (.int p5), .val (.int n), .val (.int vA), .val (.int vB), .val (.int vC), .val (.int (q3.toInt32)), .val (.int (((q3.toUInt64 >>> ((32 : Int32) &&& 0x3f).toInt64.toUInt64).toInt64).toInt32)), .val (.int (p5 &&& (3 : Int32))), .val (.int vA), .val (.ref b5), .unset] []))
    refine ogo (fun t k => XS.aload X11.here hx rfl (hb hby at_117) rfl rfl k) ?_
    show OwnEnds _ _ _ _ _ _ _ (T11.setTop (mkF m 119 #[.val (.int p0), .val (.long q1), .second, .val (.int p2), .val (.long q3), .second, .val (.int p4), .val (.int p5), .val (.int n), .val (.int vA), .val (.int vB), .val (.int vC), .val (.int (q3.toInt32)), .val (.int (((q3.toUInt64 >>> ((32 : Int32) &&& 0x3f).toInt64.toUInt64).toInt64).toInt32)), .val (.int (p5 &&& (3 : Int32))), .val (.int vA), .val (.ref b5), .unset] [(.ref b5)]))
    refine ogo (fun t k => XS.iload X11.here hx rfl (hb hby at_119) rfl k) ?_
    show OwnEnds _ _ _ _ _ _ _ (T11.setTop (mkF m 121 #[.val (.int p0), .val (.long q1), .second, .val (.int p2), .val (.long q3), .second, .val (.int p4), .val (.int p5), .val (.int n), .val (.int vA), .val (.int vB), .val (.int vC), .val (.int (q3.toInt32)), .val (.int (((q3.toUInt64 >>> ((32 : Int32) &&& 0x3f).toInt64.toUInt64).toInt64).toInt32)), .val (.int (p5 &&& (3 : Int32))), .val (.int vA), .val (.ref b5), .unset] [(.int vA), (.ref b5)]))
    obtain ⟨cq12, kq12, q12a, q12b, q12c⟩ := isOf hZ rfl E11a
    obtain ⟨v12, _, ⟨T12, L12, k12, n12⟩, -, X12, ⟨Lc12, hQ12, l12, y12, z12⟩, st12⟩ := X11.virtualBack hx (y := (⟨"com/example/dispatchwave/dispatchwave/model/VertexLabels", "get", "(I)I"⟩ : MethodName)) (z := (⟨"com/example/dispatchwave/dispatchwave/model/VertexLabels", "get", "(I)I"⟩ : MethodName)) hown (mvT hZ (hw _ (List.mem_of_getElem? (i := 20) rfl))) (mvT hZ (hw _ (List.mem_of_getElem? (i := 21) rfl))) (notFace_of_selects (args := #[]) (mvT hZ (hw _ (List.mem_of_getElem? (i := 23) rfl)))) (mvT hZ (hw _ (List.mem_of_getElem? (i := 23) rfl))) (mvT hZ (hw _ (List.mem_of_getElem? (i := 22) rfl))) (by decide) (backOf (W := 0) (rm2 l Z a0 hw [] b5 vA n (fun _ => 0) _ T11.heap n0 Z11 hL11 hn ivA) hZ (hw _ (List.mem_of_getElem? (i := 24) rfl)) (hw _ (List.mem_of_getElem? (i := 7) rfl)) (by decide) (by decide)) q12a q12c (g := (mkF m 121 #[.val (.int p0), .val (.long q1), .second, .val (.int p2), .val (.long q3), .second, .val (.int p4), .val (.int p5), .val (.int n), .val (.int vA), .val (.int vB), .val (.int vC), .val (.int (q3.toInt32)), .val (.int (((q3.toUInt64 >>> ((32 : Int32) &&& 0x3f).toInt64.toUInt64).toInt64).toInt32)), .val (.int (p5 &&& (3 : Int32))), .val (.int vA), .val (.ref b5), .unset] [(.int vA), (.ref b5)])) rfl (by rw [hml]; rfl) (Steps.refl _) (argsL := [(.int vA)]) (rest := []) (lenOf pd__I_I rfl) rfl (by show 2 * 0 + _ ≤ _; exact Nat.le_of_eq rfl) (hb hby at_121) (fun _ _ => ⟨rfl, rfl, (by decide : 2 + 0 ≤ _), (by decide : 69 + 0 ≤ _)⟩)
    dsimp only [Pt.U, Pt.locs, Pt.cells, Pt.slots] at X12 l12 y12 z12 st12 hQ12
    subst l12 y12 z12
    obtain ⟨hv12, N12q, e12⟩ := hQ12
    obtain rfl : v12 = some (.int (0 : Int32)) := hv12.trans (by rfl)
    have N12 := Fr.app N11 N12q
    refine ogo (fun t k => st12.trans k) ?_
    show OwnEnds _ _ _ _ _ _ _ (T12.setTop (mkF m 124 #[.val (.int p0), .val (.long q1), .second, .val (.int p2), .val (.long q3), .second, .val (.int p4), .val (.int p5), .val (.int n), .val (.int vA), .val (.int vB), .val (.int vC), .val (.int (q3.toInt32)), .val (.int (((q3.toUInt64 >>> ((32 : Int32) &&& 0x3f).toInt64.toUInt64).toInt64).toInt32)), .val (.int (p5 &&& (3 : Int32))), .val (.int vA), .val (.ref b5), .unset] [(.int (0 : Int32))]))
    refine ogo (fun t k => XS.ifNo X12.here hx rfl (hb hby at_124) rfl ((if0 _ _).trans (teq (by decide : (0 : Int32) = (0 : Int32))).2) k) ?_
    show OwnEnds _ _ _ _ _ _ _ (T12.setTop (mkF m 127 #[.val (.int p0), .val (.long q1), .second, .val (.int p2), .val (.long q3), .second, .val (.int p4), .val (.int p5), .val (.int n), .val (.int vA), .val (.int vB), .val (.int vC), .val (.int (q3.toInt32)), .val (.int (((q3.toUInt64 >>> ((32 : Int32) &&& 0x3f).toInt64.toUInt64).toInt64).toInt32)), .val (.int (p5 &&& (3 : Int32))), .val (.int vA), .val (.ref b5), .unset] []))
    refine ogo (fun t k => XS.iconst X12.here hx rfl (hb hby at_127) k) ?_
    show OwnEnds _ _ _ _ _ _ _ (T12.setTop (mkF m 128 #[.val (.int p0), .val (.long q1), .second, .val (.int p2), .val (.long q3), .second, .val (.int p4), .val (.int p5), .val (.int n), .val (.int vA), .val (.int vB), .val (.int vC), .val (.int (q3.toInt32)), .val (.int (((q3.toUInt64 >>> ((32 : Int32) &&& 0x3f).toInt64.toUInt64).toInt64).toInt32)), .val (.int (p5 &&& (3 : Int32))), .val (.int vA), .val (.ref b5), .unset] [(.int (1 : Int32))]))
    refine ogo (fun t k => XS.goto X12.here hx rfl (pc0 := 128) (pc' := 132) rfl (hb hby at_128) (by decide) (by decide) k) ?_
    show OwnEnds _ _ _ _ _ _ _ (T12.setTop (mkF m 132 #[.val (.int p0), .val (.long q1), .second, .val (.int p2), .val (.long q3), .second, .val (.int p4), .val (.int p5), .val (.int n), .val (.int vA), .val (.int vB), .val (.int vC), .val (.int (q3.toInt32)), .val (.int (((q3.toUInt64 >>> ((32 : Int32) &&& 0x3f).toInt64.toUInt64).toInt64).toInt32)), .val (.int (p5 &&& (3 : Int32))), .val (.int vA), .val (.ref b5), .unset] [(.int (1 : Int32))]))
    refine ogo (fun t k => XS.istore X12.here hx rfl (hb hby at_132) rfl (l' := #[.val (.int p0), .val (.long q1), .second, .val (.int p2), .val (.long q3), .second, .val (.int p4), .val (.int p5), .val (.int n), .val (.int vA), .val (.int vB), .val (.int vC), .val (.int (q3.toInt32)), .val (.int (((q3.toUInt64 >>> ((32 : Int32) &&& 0x3f).toInt64.toUInt64).toInt64).toInt32)), .val (.int (p5 &&& (3 : Int32))), .val (.int vA), .val (.ref b5), .val (.int (1 : Int32))]) rfl k) ?_
    show OwnEnds _ _ _ _ _ _ _ (T12.setTop (mkF m 134 #[.val (.int p0), .val (.long q1), .second, .val (.int p2), .val (.long q3), .second, .val (.int p4), .val (.int p5), .val (.int n), .val (.int vA), .val (.int vB), .val (.int vC), .val (.int (q3.toInt32)), .val (.int (((q3.toUInt64 >>> ((32 : Int32) &&& 0x3f).toInt64.toUInt64).toInt64).toInt32)), .val (.int (p5 &&& (3 : Int32))), .val (.int vA), .val (.ref b5), .val (.int (1 : Int32))] []))
    refine ogo (fun t k => XS.aload X12.here hx rfl (hb hby at_134) rfl rfl k) ?_
    show OwnEnds _ _ _ _ _ _ _ (T12.setTop (mkF m 136 #[.val (.int p0), .val (.long q1), .second, .val (.int p2), .val (.long q3), .second, .val (.int p4), .val (.int p5), .val (.int n), .val (.int vA), .val (.int vB), .val (.int vC), .val (.int (q3.toInt32)), .val (.int (((q3.toUInt64 >>> ((32 : Int32) &&& 0x3f).toInt64.toUInt64).toInt64).toInt32)), .val (.int (p5 &&& (3 : Int32))), .val (.int vA), .val (.ref b5), .val (.int (1 : Int32))] [(.ref b5)]))
    refine ogo (fun t k => XS.iload X12.here hx rfl (hb hby at_136) rfl k) ?_
    show OwnEnds _ _ _ _ _ _ _ (T12.setTop (mkF m 138 #[.val (.int p0), .val (.long q1), .second, .val (.int p2), .val (.long q3), .second, .val (.int p4), .val (.int p5), .val (.int n), .val (.int vA), .val (.int vB), .val (.int vC), .val (.int (q3.toInt32)), .val (.int (((q3.toUInt64 >>> ((32 : Int32) &&& 0x3f).toInt64.toUInt64).toInt64).toInt32)), .val (.int (p5 &&& (3 : Int32))), .val (.int vA), .val (.ref b5), .val (.int (1 : Int32))] [(.int vA), (.ref b5)]))
    refine ogo (fun t k => XS.iload X12.here hx rfl (hb hby at_138) rfl k) ?_
    show OwnEnds _ _ _ _ _ _ _ (T12.setTop (mkF m 140 #[.val (.int p0), .val (.long q1), .second, .val (.int p2), .val (.long q3), .second, .val (.int p4), .val (.int p5), .val (.int n), .val (.int vA), .val (.int vB), .val (.int vC), .val (.int (q3.toInt32)), .val (.int (((q3.toUInt64 >>> ((32 : Int32) &&& 0x3f).toInt64.toUInt64).toInt64).toInt32)), .val (.int (p5 &&& (3 : Int32))), .val (.int vA), .val (.ref b5), .val (.int (1 : Int32))] [(.int (q3.toInt32)), (.int vA), (.ref b5)]))
    obtain ⟨cq13, kq13, q13a, q13b, q13c⟩ := isOf hZ e12 E11a
    obtain ⟨v13, _, ⟨T13, L13, k13, n13⟩, -, X13, ⟨Lc13, hQ13, l13, y13, z13⟩, st13⟩ := X12.virtualBack hx (y := (⟨"com/example/dispatchwave/dispatchwave/model/VertexLabels", "put", "(II)V"⟩ : MethodName)) (z := (⟨"com/example/dispatchwave/dispatchwave/model/VertexLabels", "put", "(II)V"⟩ : MethodName)) hown (mvT hZ (hw _ (List.mem_of_getElem? (i := 27) rfl))) (mvT hZ (hw _ (List.mem_of_getElem? (i := 28) rfl))) (notFace_of_selects (args := #[]) (mvT hZ (hw _ (List.mem_of_getElem? (i := 30) rfl)))) (mvT hZ (hw _ (List.mem_of_getElem? (i := 30) rfl))) (mvT hZ (hw _ (List.mem_of_getElem? (i := 29) rfl))) (by decide) (backOf (W := 0) (rm50 l Z a0 hw [] b5 vA (q3.toInt32) n (fun _ => 0) T11.heap n0 Z11 OLD11 hL11 hn ivA) hZ (hw _ (List.mem_of_getElem? (i := 31) rfl)) (hw _ (List.mem_of_getElem? (i := 7) rfl)) (by decide) (by decide)) q13a q13c (g := (mkF m 140 #[.val (.int p0), .val (.long q1), .second, .val (.int p2), .val (.long q3), .second, .val (.int p4), .val (.int p5), .val (.int n), .val (.int vA), .val (.int vB), .val (.int vC), .val (.int (q3.toInt32)), .val (.int (((q3.toUInt64 >>> ((32 : Int32) &&& 0x3f).toInt64.toUInt64).toInt64).toInt32)), .val (.int (p5 &&& (3 : Int32))), .val (.int vA), .val (.ref b5), .val (.int (1 : Int32))] [(.int (q3.toInt32)), (.int vA), (.ref b5)])) rfl (by rw [hml]; rfl) (Steps.refl _) (argsL := [(.int vA), (.int (q3.toInt32))]) (rest := []) (lenOf pd__II_V rfl) rfl (by show 2 * 0 + _ ≤ _; exact Nat.le_of_eq rfl) (hb hby at_140) (fun _ _ => ⟨rfl, e12, (by decide : 2 + 1 ≤ _), (by decide : 69 + 192 ≤ _)⟩)
    dsimp only [Pt.U, Pt.locs, Pt.cells, Pt.slots] at X13 l13 y13 z13 st13 hQ13
    subst l13 y13 z13
    obtain ⟨rfl, N13q, OLD13, Z13, hL13⟩ := hQ13
    have N13 := Fr.app N12 N13q
    have E13a := hL13.1.2.1
    refine ogo (fun t k => st13.trans k) ?_
    show OwnEnds _ _ _ _ _ _ _ (T13.setTop (mkF m 143 #[.val (.int p0), .val (.long q1), .second, .val (.int p2), .val (.long q3), .second, .val (.int p4), .val (.int p5), .val (.int n), .val (.int vA), .val (.int vB), .val (.int vC), .val (.int (q3.toInt32)), .val (.int (((q3.toUInt64 >>> ((32 : Int32) &&& 0x3f).toInt64.toUInt64).toInt64).toInt32)), .val (.int (p5 &&& (3 : Int32))), .val (.int vA), .val (.ref b5), .val (.int (1 : Int32))] []))
    refine ogo (fun t k => XS.aload X13.here hx rfl (hb hby at_143) rfl rfl k) ?_
    show OwnEnds _ _ _ _ _ _ _ (T13.setTop (mkF m 145 #[.val (.int p0), .val (.long q1), .second, .val (.int p2), .val (.long q3), .second, .val (.int p4), .val (.int p5), .val (.int n), .val (.int vA), .val (.int vB), .val (.int vC), .val (.int (q3.toInt32)), .val (.int (((q3.toUInt64 >>> ((32 : Int32) &&& 0x3f).toInt64.toUInt64).toInt64).toInt32)), .val (.int (p5 &&& (3 : Int32))), .val (.int vA), .val (.ref b5), .val (.int (1 : Int32))] [(.ref b5)]))
    refine ogo (fun t k => XS.iload X13.here hx rfl (hb hby at_145) rfl k) ?_
    show OwnEnds _ _ _ _ _ _ _ (T13.setTop (mkF m 147 #[.val (.int p0), .val (.long q1), .second, .val (.int p2), .val (.long q3), .second, .val (.int p4), .val (.int p5), .val (.int n), .val (.int vA), .val (.int vB), .val (.int vC), .val (.int (q3.toInt32)), .val (.int (((q3.toUInt64 >>> ((32 : Int32) &&& 0x3f).toInt64.toUInt64).toInt64).toInt32)), .val (.int (p5 &&& (3 : Int32))), .val (.int vA), .val (.ref b5), .val (.int (1 : Int32))] [(.int vB), (.ref b5)]))
    refine ogo (fun t k => XS.iload X13.here hx rfl (hb hby at_147) rfl k) ?_
    show OwnEnds _ _ _ _ _ _ _ (T13.setTop (mkF m 149 #[.val (.int p0), .val (.long q1), .second, .val (.int p2), .val (.long q3), .second, .val (.int p4), .val (.int p5), .val (.int n), .val (.int vA), .val (.int vB), .val (.int vC), .val (.int (q3.toInt32)), .val (.int (((q3.toUInt64 >>> ((32 : Int32) &&& 0x3f).toInt64.toUInt64).toInt64).toInt32)), .val (.int (p5 &&& (3 : Int32))), .val (.int vA), .val (.ref b5), .val (.int (1 : Int32))] [(.int (((q3.toUInt64 >>> ((32 : Int32) &&& 0x3f).toInt64.toUInt64).toInt64).toInt32)), (.int vB), (.ref b5)]))
    obtain ⟨cq14, kq14, q14a, q14b, q14c⟩ := isOf hZ rfl E13a
    obtain ⟨v14, _, ⟨T14, L14, k14, n14⟩, -, X14, ⟨Lc14, hQ14, l14, y14, z14⟩, st14⟩ := X13.virtualBack hx (y := (⟨"com/example/dispatchwave/dispatchwave/model/VertexLabels", "put", "(II)V"⟩ : MethodName)) (z := (⟨"com/example/dispatchwave/dispatchwave/model/VertexLabels", "put", "(II)V"⟩ : MethodName)) hown (mvT hZ (hw _ (List.mem_of_getElem? (i := 27) rfl))) (mvT hZ (hw _ (List.mem_of_getElem? (i := 28) rfl))) (notFace_of_selects (args := #[]) (mvT hZ (hw _ (List.mem_of_getElem? (i := 30) rfl)))) (mvT hZ (hw _ (List.mem_of_getElem? (i := 30) rfl))) (mvT hZ (hw _ (List.mem_of_getElem? (i := 29) rfl))) (by decide) (backOf (W := 0) (rm51 l Z a0 hw [] b5 vB (((q3.toUInt64 >>> ((32 : Int32) &&& 0x3f).toInt64.toUInt64).toInt64).toInt32) n (fupd (fun _ => 0) vA.toInt.toNat (q3.toInt32)) T13.heap n0 Z13 OLD13 hL13 hn ivB) hZ (hw _ (List.mem_of_getElem? (i := 31) rfl)) (hw _ (List.mem_of_getElem? (i := 7) rfl)) (by decide) (by decide)) q14a q14c (g := (mkF m 149 #[.val (.int p0), .val (.long q1), .second, .val (.int p2), .val (.long q3), .second, .val (.int p4), .val (.int p5), .val (.int n), .val (.int vA), .val (.int vB), .val (.int vC), .val (.int (q3.toInt32)), .val (.int (((q3.toUInt64 >>> ((32 : Int32) &&& 0x3f).toInt64.toUInt64).toInt64).toInt32)), .val (.int (p5 &&& (3 : Int32))), .val (.int vA), .val (.ref b5), .val (.int (1 : Int32))] [(.int (((q3.toUInt64 >>> ((32 : Int32) &&& 0x3f).toInt64.toUInt64).toInt64).toInt32)), (.int vB), (.ref b5)])) rfl (by rw [hml]; rfl) (Steps.refl _) (argsL := [(.int vB), (.int (((q3.toUInt64 >>> ((32 : Int32) &&& 0x3f).toInt64.toUInt64).toInt64).toInt32))]) (rest := []) (lenOf pd__II_V rfl) rfl (by show 2 * 0 + _ ≤ _; exact Nat.le_of_eq rfl) (hb hby at_149) (fun _ _ => ⟨rfl, rfl, (by decide : 3 + 1 ≤ _), (by decide : 261 + 448 ≤ _)⟩)
    dsimp only [Pt.U, Pt.locs, Pt.cells, Pt.slots] at X14 l14 y14 z14 st14 hQ14
    subst l14 y14 z14
    obtain ⟨rfl, N14q, OLD14, Z14, hL14⟩ := hQ14
    have N14 := Fr.app N13 N14q
    have E14a := hL14.1.2.1
    refine ogo (fun t k => st14.trans k) ?_
    show OwnEnds _ _ _ _ _ _ _ (T14.setTop (mkF m 152 #[.val (.int p0), .val (.long q1), .second, .val (.int p2), .val (.long q3), .second, .val (.int p4), .val (.int p5), .val (.int n), .val (.int vA), .val (.int vB), .val (.int vC), .val (.int (q3.toInt32)), .val (.int (((q3.toUInt64 >>> ((32 : Int32) &&& 0x3f).toInt64.toUInt64).toInt64).toInt32)), .val (.int (p5 &&& (3 : Int32))), .val (.int vA), .val (.ref b5), .val (.int (1 : Int32))] []))
    refine ogo (fun t k => XS.aload X14.here hx rfl (hb hby at_152) rfl rfl k) ?_
    show OwnEnds _ _ _ _ _ _ _ (T14.setTop (mkF m 154 #[.val (.int p0), .val (.long q1), .second, .val (.int p2), .val (.long q3), .second, .val (.int p4), .val (.int p5), .val (.int n), .val (.int vA), .val (.int vB), .val (.int vC), .val (.int (q3.toInt32)), .val (.int (((q3.toUInt64 >>> ((32 : Int32) &&& 0x3f).toInt64.toUInt64).toInt64).toInt32)), .val (.int (p5 &&& (3 : Int32))), .val (.int vA), .val (.ref b5), .val (.int (1 : Int32))] [(.ref b5)]))
    refine ogo (fun t k => XS.iload X14.here hx rfl (hb hby at_154) rfl k) ?_
    show OwnEnds _ _ _ _ _ _ _ (T14.setTop (mkF m 156 #[.val (.int p0), .val (.long q1), .second, .val (.int p2), .val (.long q3), .second, .val (.int p4), .val (.int p5), .val (.int n), .val (.int vA), .val (.int vB), .val (.int vC), .val (.int (q3.toInt32)), .val (.int (((q3.toUInt64 >>> ((32 : Int32) &&& 0x3f).toInt64.toUInt64).toInt64).toInt32)), .val (.int (p5 &&& (3 : Int32))), .val (.int vA), .val (.ref b5), .val (.int (1 : Int32))] [(.int vC), (.ref b5)]))
    refine ogo (fun t k => XS.iload X14.here hx rfl (hb hby at_156) rfl k) ?_
    show OwnEnds _ _ _ _ _ _ _ (T14.setTop (mkF m 158 #[.val (.int p0), .val (.long q1), .second, .val (.int p2), .val (.long q3), .second, .val (.int p4), .val (.int p5), .val (.int n), .val (.int vA), .val (.int vB), .val (.int vC), .val (.int (q3.toInt32)), .val (.int (((q3.toUInt64 >>> ((32 : Int32) &&& 0x3f).toInt64.toUInt64).toInt64).toInt32)), .val (.int (p5 &&& (3 : Int32))), .val (.int vA), .val (.ref b5), .val (.int (1 : Int32))] [(.int p4), (.int vC), (.ref b5)]))
    obtain ⟨cq15, kq15, q15a, q15b, q15c⟩ := isOf hZ rfl E14a
    obtain ⟨v15, _, ⟨T15, L15, k15, n15⟩, -, X15, ⟨Lc15, hQ15, l15, y15, z15⟩, st15⟩ := X14.virtualBack hx (y := (⟨"com/example/dispatchwave/dispatchwave/model/VertexLabels", "put", "(II)V"⟩ : MethodName)) (z := (⟨"com/example/dispatchwave/dispatchwave/model/VertexLabels", "put", "(II)V"⟩ : MethodName)) hown (mvT hZ (hw _ (List.mem_of_getElem? (i := 27) rfl))) (mvT hZ (hw _ (List.mem_of_getElem? (i := 28) rfl))) (notFace_of_selects (args := #[]) (mvT hZ (hw _ (List.mem_of_getElem? (i := 30) rfl)))) (mvT hZ (hw _ (List.mem_of_getElem? (i := 30) rfl))) (mvT hZ (hw _ (List.mem_of_getElem? (i := 29) rfl))) (by decide) (backOf (W := 0) (rm52 l Z a0 hw [] b5 vC p4 n (fupd (fupd (fun _ => 0) vA.toInt.toNat (q3.toInt32)) vB.toInt.toNat (((q3.toUInt64 >>> ((32 : Int32) &&& 0x3f).toInt64.toUInt64).toInt64).toInt32)) T14.heap n0 Z14 OLD14 hL14 hn ivC) hZ (hw _ (List.mem_of_getElem? (i := 31) rfl)) (hw _ (List.mem_of_getElem? (i := 7) rfl)) (by decide) (by decide)) q15a q15c (g := (mkF m 158 #[.val (.int p0), .val (.long q1), .second, .val (.int p2), .val (.long q3), .second, .val (.int p4), .val (.int p5), .val (.int n), .val (.int vA), .val (.int vB), .val (.int vC), .val (.int (q3.toInt32)), .val (.int (((q3.toUInt64 >>> ((32 : Int32) &&& 0x3f).toInt64.toUInt64).toInt64).toInt32)), .val (.int (p5 &&& (3 : Int32))), .val (.int vA), .val (.ref b5), .val (.int (1 : Int32))] [(.int p4), (.int vC), (.ref b5)])) rfl (by rw [hml]; rfl) (Steps.refl _) (argsL := [(.int vC), (.int p4)]) (rest := []) (lenOf pd__II_V rfl) rfl (by show 2 * 0 + _ ≤ _; exact Nat.le_of_eq rfl) (hb hby at_158) (fun _ _ => ⟨rfl, rfl, (by decide : 4 + 1 ≤ _), (by decide : 709 + 704 ≤ _)⟩)
    dsimp only [Pt.U, Pt.locs, Pt.cells, Pt.slots] at X15 l15 y15 z15 st15 hQ15
    subst l15 y15 z15
    obtain ⟨rfl, N15q, OLD15, Z15, hL15⟩ := hQ15
    have N15 := Fr.app N14 N15q
    have E15a := hL15.1.2.1
    refine ogo (fun t k => st15.trans k) ?_
    show OwnEnds _ _ _ _ _ _ _ (T15.setTop (mkF m 161 #[.val (.int p0), .val (.long q1), .second, .val (.int p2), .val (.long q3), .second, .val (.int p4), .val (.int p5), .val (.int n), .val (.int vA), .val (.int vB), .val (.int vC), .val (.int (q3.toInt32)), .val (.int (((q3.toUInt64 >>> ((32 : Int32) &&& 0x3f).toInt64.toUInt64).toInt64).toInt32)), .val (.int (p5 &&& (3 : Int32))), .val (.int vA), .val (.ref b5), .val (.int (1 : Int32))] []))
    refine ogo (fun t k => XS.iload X15.here hx rfl (hb hby at_161) rfl k) ?_
    show OwnEnds _ _ _ _ _ _ _ (T15.setTop (mkF m 163 #[.val (.int p0), .val (.long q1), .second, .val (.int p2), .val (.long q3), .second, .val (.int p4), .val (.int p5), .val (.int n), .val (.int vA), .val (.int vB), .val (.int vC), .val (.int (q3.toInt32)), .val (.int (((q3.toUInt64 >>> ((32 : Int32) &&& 0x3f).toInt64.toUInt64).toInt64).toInt32)), .val (.int (p5 &&& (3 : Int32))), .val (.int vA), .val (.ref b5), .val (.int (1 : Int32))] [(.int (1 : Int32))]))
    refine ogo (fun t k => XS.ifNo X15.here hx rfl (hb hby at_163) rfl ((if0 _ _).trans (feq (by decide : ¬ ((1 : Int32) = (0 : Int32)))).1) k) ?_
    show OwnEnds _ _ _ _ _ _ _ (T15.setTop (mkF m 166 #[.val (.int p0), .val (.long q1), .second, .val (.int p2), .val (.long q3), .second, .val (.int p4), .val (.int p5), .val (.int n), .val (.int vA), .val (.int vB), .val (.int vC), .val (.int (q3.toInt32)), .val (.int (((q3.toUInt64 >>> ((32 : Int32) &&& 0x3f).toInt64.toUInt64).toInt64).toInt32)), .val (.int (p5 &&& (3 : Int32))), .val (.int vA), .val (.ref b5), .val (.int (1 : Int32))] []))
    refine ogo (fun t k => XS.aload X15.here hx rfl (hb hby at_166) rfl rfl k) ?_
    show OwnEnds _ _ _ _ _ _ _ (T15.setTop (mkF m 168 #[.val (.int p0), .val (.long q1), .second, .val (.int p2), .val (.long q3), .second, .val (.int p4), .val (.int p5), .val (.int n), .val (.int vA), .val (.int vB), .val (.int vC), .val (.int (q3.toInt32)), .val (.int (((q3.toUInt64 >>> ((32 : Int32) &&& 0x3f).toInt64.toUInt64).toInt64).toInt32)), .val (.int (p5 &&& (3 : Int32))), .val (.int vA), .val (.ref b5), .val (.int (1 : Int32))] [(.ref b5)]))
    refine ogo (fun t k => XS.iload X15.here hx rfl (hb hby at_168) rfl k) ?_
    show OwnEnds _ _ _ _ _ _ _ (T15.setTop (mkF m 170 #[.val (.int p0), .val (.long q1), .second, .val (.int p2), .val (.long q3), .second, .val (.int p4), .val (.int p5), .val (.int n), .val (.int vA), .val (.int vB), .val (.int vC), .val (.int (q3.toInt32)), .val (.int (((q3.toUInt64 >>> ((32 : Int32) &&& 0x3f).toInt64.toUInt64).toInt64).toInt32)), .val (.int (p5 &&& (3 : Int32))), .val (.int vA), .val (.ref b5), .val (.int (1 : Int32))] [(.int vA), (.ref b5)]))
    obtain ⟨cq16, kq16, q16a, q16b, q16c⟩ := isOf hZ rfl E15a
    obtain ⟨v16, _, ⟨T16, L16, k16, n16⟩, -, X16, ⟨Lc16, hQ16, l16, y16, z16⟩, st16⟩ := X15.virtualBack hx (y := (⟨"com/example/dispatchwave/dispatchwave/model/VertexLabels", "get", "(I)I"⟩ : MethodName)) (z := (⟨"com/example/dispatchwave/dispatchwave/model/VertexLabels", "get", "(I)I"⟩ : MethodName)) hown (mvT hZ (hw _ (List.mem_of_getElem? (i := 20) rfl))) (mvT hZ (hw _ (List.mem_of_getElem? (i := 21) rfl))) (notFace_of_selects (args := #[]) (mvT hZ (hw _ (List.mem_of_getElem? (i := 23) rfl)))) (mvT hZ (hw _ (List.mem_of_getElem? (i := 23) rfl))) (mvT hZ (hw _ (List.mem_of_getElem? (i := 22) rfl))) (by decide) (backOf (W := 0) (rm2 l Z a0 hw [] b5 vA n (fupd (fupd (fupd (fun _ => 0) vA.toInt.toNat (q3.toInt32)) vB.toInt.toNat (((q3.toUInt64 >>> ((32 : Int32) &&& 0x3f).toInt64.toUInt64).toInt64).toInt32)) vC.toInt.toNat p4) _ T15.heap n0 Z15 hL15 hn ivA) hZ (hw _ (List.mem_of_getElem? (i := 24) rfl)) (hw _ (List.mem_of_getElem? (i := 7) rfl)) (by decide) (by decide)) q16a q16c (g := (mkF m 170 #[.val (.int p0), .val (.long q1), .second, .val (.int p2), .val (.long q3), .second, .val (.int p4), .val (.int p5), .val (.int n), .val (.int vA), .val (.int vB), .val (.int vC), .val (.int (q3.toInt32)), .val (.int (((q3.toUInt64 >>> ((32 : Int32) &&& 0x3f).toInt64.toUInt64).toInt64).toInt32)), .val (.int (p5 &&& (3 : Int32))), .val (.int vA), .val (.ref b5), .val (.int (1 : Int32))] [(.int vA), (.ref b5)])) rfl (by rw [hml]; rfl) (Steps.refl _) (argsL := [(.int vA)]) (rest := []) (lenOf pd__I_I rfl) rfl (by show 2 * 0 + _ ≤ _; exact Nat.le_of_eq rfl) (hb hby at_170) (fun _ _ => ⟨rfl, rfl, (by decide : 5 + 0 ≤ _), (by decide : 1413 + 0 ≤ _)⟩)
    dsimp only [Pt.U, Pt.locs, Pt.cells, Pt.slots] at X16 l16 y16 z16 st16 hQ16
    subst l16 y16 z16
    obtain ⟨hv16, N16q, e16⟩ := hQ16
    obtain rfl : v16 = some (.int (own_exp vA vA (q3.toInt32) vB (((q3.toUInt64 >>> ((32 : Int32) &&& 0x3f).toInt64.toUInt64).toInt64).toInt32) vC p4)) := hv16.trans (by rw [own_fin ivA ivA ivB ivC])
    have N16 := Fr.app N15 N16q
    refine ogo (fun t k => st16.trans k) ?_
    show OwnEnds _ _ _ _ _ _ _ (T16.setTop (mkF m 173 #[.val (.int p0), .val (.long q1), .second, .val (.int p2), .val (.long q3), .second, .val (.int p4), .val (.int p5), .val (.int n), .val (.int vA), .val (.int vB), .val (.int vC), .val (.int (q3.toInt32)), .val (.int (((q3.toUInt64 >>> ((32 : Int32) &&& 0x3f).toInt64.toUInt64).toInt64).toInt32)), .val (.int (p5 &&& (3 : Int32))), .val (.int vA), .val (.ref b5), .val (.int (1 : Int32))] [(.int (own_exp vA vA (q3.toInt32) vB (((q3.toUInt64 >>> ((32 : Int32) &&& 0x3f).toInt64.toUInt64).toInt64).toInt32) vC p4))]))
    refine ogo (fun t k => XS.iload X16.here hx rfl (hb hby at_173) rfl k) ?_
    show OwnEnds _ _ _ _ _ _ _ (T16.setTop (mkF m 175 #[.val (.int p0), .val (.long q1), .second, .val (.int p2), .val (.long q3), .second, .val (.int p4), .val (.int p5), .val (.int n), .val (.int vA), .val (.int vB), .val (.int vC), .val (.int (q3.toInt32)), .val (.int (((q3.toUInt64 >>> ((32 : Int32) &&& 0x3f).toInt64.toUInt64).toInt64).toInt32)), .val (.int (p5 &&& (3 : Int32))), .val (.int vA), .val (.ref b5), .val (.int (1 : Int32))] [(.int vA), (.int (own_exp vA vA (q3.toInt32) vB (((q3.toUInt64 >>> ((32 : Int32) &&& 0x3f).toInt64.toUInt64).toInt64).toInt32) vC p4))]))
    refine ogo (fun t k => XS.iload X16.here hx rfl (hb hby at_175) rfl k) ?_
    show OwnEnds _ _ _ _ _ _ _ (T16.setTop (mkF m 177 #[.val (.int p0), .val (.long q1), .second, .val (.int p2), .val (.long q3), .second, .val (.int p4), .val (.int p5), .val (.int n), .val (.int vA), .val (.int vB), .val (.int vC), .val (.int (q3.toInt32)), .val (.int (((q3.toUInt64 >>> ((32 : Int32) &&& 0x3f).toInt64.toUInt64).toInt64).toInt32)), .val (.int (p5 &&& (3 : Int32))), .val (.int vA), .val (.ref b5), .val (.int (1 : Int32))] [(.int vA), (.int vA), (.int (own_exp vA vA (q3.toInt32) vB (((q3.toUInt64 >>> ((32 : Int32) &&& 0x3f).toInt64.toUInt64).toInt64).toInt32) vC p4))]))
    refine ogo (fun t k => XS.iload X16.here hx rfl (hb hby at_177) rfl k) ?_
    show OwnEnds _ _ _ _ _ _ _ (T16.setTop (mkF m 179 #[.val (.int p0), .val (.long q1), .second, .val (.int p2), .val (.long q3), .second, .val (.int p4), .val (.int p5), .val (.int n), .val (.int vA), .val (.int vB), .val (.int vC), .val (.int (q3.toInt32)), .val (.int (((q3.toUInt64 >>> ((32 : Int32) &&& 0x3f).toInt64.toUInt64).toInt64).toInt32)), .val (.int (p5 &&& (3 : Int32))), .val (.int vA), .val (.ref b5), .val (.int (1 : Int32))] [(.int (q3.toInt32)), (.int vA), (.int vA), (.int (own_exp vA vA (q3.toInt32) vB (((q3.toUInt64 >>> ((32 : Int32) &&& 0x3f).toInt64.toUInt64).toInt64).toInt32) vC p4))]))
    refine ogo (fun t k => XS.iload X16.here hx rfl (hb hby at_179) rfl k) ?_
    show OwnEnds _ _ _ _ _ _ _ (T16.setTop (mkF m 181 #[.val (.int p0), .val (.long q1), .second, .val (.int p2), .val (.long q3), .second, .val (.int p4), .val (.int p5), .val (.int n), .val (.int vA), .val (.int vB), .val (.int vC), .val (.int (q3.toInt32)), .val (.int (((q3.toUInt64 >>> ((32 : Int32) &&& 0x3f).toInt64.toUInt64).toInt64).toInt32)), .val (.int (p5 &&& (3 : Int32))), .val (.int vA), .val (.ref b5), .val (.int (1 : Int32))] [(.int vB), (.int (q3.toInt32)), (.int vA), (.int vA), (.int (own_exp vA vA (q3.toInt32) vB (((q3.toUInt64 >>> ((32 : Int32) &&& 0x3f).toInt64.toUInt64).toInt64).toInt32) vC p4))]))
    refine ogo (fun t k => XS.iload X16.here hx rfl (hb hby at_181) rfl k) ?_
    show OwnEnds _ _ _ _ _ _ _ (T16.setTop (mkF m 183 #[.val (.int p0), .val (.long q1), .second, .val (.int p2), .val (.long q3), .second, .val (.int p4), .val (.int p5), .val (.int n), .val (.int vA), .val (.int vB), .val (.int vC), .val (.int (q3.toInt32)), .val (.int (((q3.toUInt64 >>> ((32 : Int32) &&& 0x3f).toInt64.toUInt64).toInt64).toInt32)), .val (.int (p5 &&& (3 : Int32))), .val (.int vA), .val (.ref b5), .val (.int (1 : Int32))] [(.int (((q3.toUInt64 >>> ((32 : Int32) &&& 0x3f).toInt64.toUInt64).toInt64).toInt32)), (.int vB), (.int (q3.toInt32)), (.int vA), (.int vA), (.int (own_exp vA vA (q3.toInt32) vB (((q3.toUInt64 >>> ((32 : Int32) &&& 0x3f).toInt64.toUInt64).toInt64).toInt32) vC p4))]))
    refine ogo (fun t k => XS.iload X16.here hx rfl (hb hby at_183) rfl k) ?_
    show OwnEnds _ _ _ _ _ _ _ (T16.setTop (mkF m 185 #[.val (.int p0), .val (.long q1), .second, .val (.int p2), .val (.long q3), .second, .val (.int p4), .val (.int p5), .val (.int n), .val (.int vA), .val (.int vB), .val (.int vC), .val (.int (q3.toInt32)), .val (.int (((q3.toUInt64 >>> ((32 : Int32) &&& 0x3f).toInt64.toUInt64).toInt64).toInt32)), .val (.int (p5 &&& (3 : Int32))), .val (.int vA), .val (.ref b5), .val (.int (1 : Int32))] [(.int vC), (.int (((q3.toUInt64 >>> ((32 : Int32) &&& 0x3f).toInt64.toUInt64).toInt64).toInt32)), (.int vB), (.int (q3.toInt32)), (.int vA), (.int vA), (.int (own_exp vA vA (q3.toInt32) vB (((q3.toUInt64 >>> ((32 : Int32) &&& 0x3f).toInt64.toUInt64).toInt64).toInt32) vC p4))]))
    refine ogo (fun t k => XS.iload X16.here hx rfl (hb hby at_185) rfl k) ?_
    show OwnEnds _ _ _ _ _ _ _ (T16.setTop (mkF m 187 #[.val (.int p0), .val (.long q1), .second, .val (.int p2), .val (.long q3), .second, .val (.int p4), .val (.int p5), .val (.int n), .val (.int vA), .val (.int vB), .val (.int vC), .val (.int (q3.toInt32)), .val (.int (((q3.toUInt64 >>> ((32 : Int32) &&& 0x3f).toInt64.toUInt64).toInt64).toInt32)), .val (.int (p5 &&& (3 : Int32))), .val (.int vA), .val (.ref b5), .val (.int (1 : Int32))] [(.int p4), (.int vC), (.int (((q3.toUInt64 >>> ((32 : Int32) &&& 0x3f).toInt64.toUInt64).toInt64).toInt32)), (.int vB), (.int (q3.toInt32)), (.int vA), (.int vA), (.int (own_exp vA vA (q3.toInt32) vB (((q3.toUInt64 >>> ((32 : Int32) &&& 0x3f).toInt64.toUInt64).toInt64).toInt32) vC p4))]))
    obtain ⟨v17, _, ⟨T17, L17, k17, n17⟩, -, X17, ⟨Lc17, hQ17, l17, y17, z17⟩, st17⟩ := Jvm.LawKit.callS X16 hx (y := (⟨"com/example/dispatchwave/dispatchwave/model/VertexLabelsGetPinLaw", "expected", "(IIIIIII)I"⟩ : MethodName)) hown (mvT hZ (hw _ (List.mem_of_getElem? (i := 40) rfl))) (mvT hZ (hw _ (List.mem_of_getElem? (i := 41) rfl))) (mvT hZ (hw _ (List.mem_of_getElem? (i := 2) rfl))) (mvT hZ (hw _ (List.mem_of_getElem? (i := 42) rfl))) (by decide) (backOf (W := 1) (rm7 l Z a0 hw [] vA vA (q3.toInt32) vB (((q3.toUInt64 >>> ((32 : Int32) &&& 0x3f).toInt64.toUInt64).toInt64).toInt32) vC p4 T15.heap n0 Z15 ) hZ (hw _ (List.mem_of_getElem? (i := 42) rfl)) (hw _ (List.mem_of_getElem? (i := 2) rfl)) (by decide) (by decide)) (g := (mkF m 187 #[.val (.int p0), .val (.long q1), .second, .val (.int p2), .val (.long q3), .second, .val (.int p4), .val (.int p5), .val (.int n), .val (.int vA), .val (.int vB), .val (.int vC), .val (.int (q3.toInt32)), .val (.int (((q3.toUInt64 >>> ((32 : Int32) &&& 0x3f).toInt64.toUInt64).toInt64).toInt32)), .val (.int (p5 &&& (3 : Int32))), .val (.int vA), .val (.ref b5), .val (.int (1 : Int32))] [(.int p4), (.int vC), (.int (((q3.toUInt64 >>> ((32 : Int32) &&& 0x3f).toInt64.toUInt64).toInt64).toInt32)), (.int vB), (.int (q3.toInt32)), (.int vA), (.int vA), (.int (own_exp vA vA (q3.toInt32) vB (((q3.toUInt64 >>> ((32 : Int32) &&& 0x3f).toInt64.toUInt64).toInt64).toInt32) vC p4))])) rfl (by rw [hml]; rfl) (argsL := [(.int vA), (.int vA), (.int (q3.toInt32)), (.int vB), (.int (((q3.toUInt64 >>> ((32 : Int32) &&& 0x3f).toInt64.toUInt64).toInt64).toInt32)), (.int vC), (.int p4)]) (rest := [(.int (own_exp vA vA (q3.toInt32) vB (((q3.toUInt64 >>> ((32 : Int32) &&& 0x3f).toInt64.toUInt64).toInt64).toInt32) vC p4))]) (lenOf pd__IIIIIII_I rfl) rfl (by show 2 * 0 + _ ≤ _; exact Nat.le_of_eq rfl) (hb hby at_187) (fun _ _ => ⟨rfl, e16, (by decide : 5 + 0 ≤ _), (by decide : 1413 + 0 ≤ _)⟩)
    dsimp only [Pt.U, Pt.locs, Pt.cells, Pt.slots] at X17 l17 y17 z17 st17 hQ17
    subst l17 y17 z17
    obtain ⟨rfl, N17q, e17⟩ := hQ17
    have N17 := Fr.app N16 N17q
    refine ogo (fun t k => st17 t k) ?_
    show OwnEnds _ _ _ _ _ _ _ (T17.setTop (mkF m 190 #[.val (.int p0), .val (.long q1), .second, .val (.int p2), .val (.long q3), .second, .val (.int p4), .val (.int p5), .val (.int n), .val (.int vA), .val (.int vB), .val (.int vC), .val (.int (q3.toInt32)), .val (.int (((q3.toUInt64 >>> ((32 : Int32) &&& 0x3f).toInt64.toUInt64).toInt64).toInt32)), .val (.int (p5 &&& (3 : Int32))), .val (.int vA), .val (.ref b5), .val (.int (1 : Int32))] [(.int (own_exp vA vA (q3.toInt32) vB (((q3.toUInt64 >>> ((32 : Int32) &&& 0x3f).toInt64.toUInt64).toInt64).toInt32) vC p4)), (.int (own_exp vA vA (q3.toInt32) vB (((q3.toUInt64 >>> ((32 : Int32) &&& 0x3f).toInt64.toUInt64).toInt64).toInt32) vC p4))]))
    refine ogo (fun t k => XS.icmpNo X17.here hx rfl (hb hby at_190) rfl (teq (rfl : (own_exp vA vA (q3.toInt32) vB (((q3.toUInt64 >>> ((32 : Int32) &&& 0x3f).toInt64.toUInt64).toInt64).toInt32) vC p4) = (own_exp vA vA (q3.toInt32) vB (((q3.toUInt64 >>> ((32 : Int32) &&& 0x3f).toInt64.toUInt64).toInt64).toInt32) vC p4))).2 k) ?_
    show OwnEnds _ _ _ _ _ _ _ (T17.setTop (mkF m 193 #[.val (.int p0), .val (.long q1), .second, .val (.int p2), .val (.long q3), .second, .val (.int p4), .val (.int p5), .val (.int n), .val (.int vA), .val (.int vB), .val (.int vC), .val (.int (q3.toInt32)), .val (.int (((q3.toUInt64 >>> ((32 : Int32) &&& 0x3f).toInt64.toUInt64).toInt64).toInt32)), .val (.int (p5 &&& (3 : Int32))), .val (.int vA), .val (.ref b5), .val (.int (1 : Int32))] []))
    refine ogo (fun t k => XS.iconst X17.here hx rfl (hb hby at_193) k) ?_
    show OwnEnds _ _ _ _ _ _ _ (T17.setTop (mkF m 194 #[.val (.int p0), .val (.long q1), .second, .val (.int p2), .val (.long q3), .second, .val (.int p4), .val (.int p5), .val (.int n), .val (.int vA), .val (.int vB), .val (.int vC), .val (.int (q3.toInt32)), .val (.int (((q3.toUInt64 >>> ((32 : Int32) &&& 0x3f).toInt64.toUInt64).toInt64).toInt32)), .val (.int (p5 &&& (3 : Int32))), .val (.int vA), .val (.ref b5), .val (.int (1 : Int32))] [(.int (1 : Int32))]))
    refine ogo (fun t k => XS.goto X17.here hx rfl (pc0 := 194) (pc' := 198) rfl (hb hby at_194) (by decide) (by decide) k) ?_
    show OwnEnds _ _ _ _ _ _ _ (T17.setTop (mkF m 198 #[.val (.int p0), .val (.long q1), .second, .val (.int p2), .val (.long q3), .second, .val (.int p4), .val (.int p5), .val (.int n), .val (.int vA), .val (.int vB), .val (.int vC), .val (.int (q3.toInt32)), .val (.int (((q3.toUInt64 >>> ((32 : Int32) &&& 0x3f).toInt64.toUInt64).toInt64).toInt32)), .val (.int (p5 &&& (3 : Int32))), .val (.int vA), .val (.ref b5), .val (.int (1 : Int32))] [(.int (1 : Int32))]))
    refine ogo (fun t k => XS.istore X17.here hx rfl (hb hby at_198) rfl (l' := #[.val (.int p0), .val (.long q1), .second, .val (.int p2), .val (.long q3), .second, .val (.int p4), .val (.int p5), .val (.int n), .val (.int vA), .val (.int vB), .val (.int vC), .val (.int (q3.toInt32)), .val (.int (((q3.toUInt64 >>> ((32 : Int32) &&& 0x3f).toInt64.toUInt64).toInt64).toInt32)), .val (.int (p5 &&& (3 : Int32))), .val (.int vA), .val (.ref b5), .val (.int (1 : Int32))]) rfl k) ?_
    show OwnEnds _ _ _ _ _ _ _ (T17.setTop (mkF m 200 #[.val (.int p0), .val (.long q1), .second, .val (.int p2), .val (.long q3), .second, .val (.int p4), .val (.int p5), .val (.int n), .val (.int vA), .val (.int vB), .val (.int vC), .val (.int (q3.toInt32)), .val (.int (((q3.toUInt64 >>> ((32 : Int32) &&& 0x3f).toInt64.toUInt64).toInt64).toInt32)), .val (.int (p5 &&& (3 : Int32))), .val (.int vA), .val (.ref b5), .val (.int (1 : Int32))] []))
    refine ogo (fun t k => XS.iload X17.here hx rfl (hb hby at_200) rfl k) ?_
    show OwnEnds _ _ _ _ _ _ _ (T17.setTop (mkF m 202 #[.val (.int p0), .val (.long q1), .second, .val (.int p2), .val (.long q3), .second, .val (.int p4), .val (.int p5), .val (.int n), .val (.int vA), .val (.int vB), .val (.int vC), .val (.int (q3.toInt32)), .val (.int (((q3.toUInt64 >>> ((32 : Int32) &&& 0x3f).toInt64.toUInt64).toInt64).toInt32)), .val (.int (p5 &&& (3 : Int32))), .val (.int vA), .val (.ref b5), .val (.int (1 : Int32))] [(.int (1 : Int32))]))
    refine ogo (fun t k => XS.ifNo X17.here hx rfl (hb hby at_202) rfl ((if0 _ _).trans (feq (by decide : ¬ ((1 : Int32) = (0 : Int32)))).1) k) ?_
    show OwnEnds _ _ _ _ _ _ _ (T17.setTop (mkF m 205 #[.val (.int p0), .val (.long q1), .second, .val (.int p2), .val (.long q3), .second, .val (.int p4), .val (.int p5), .val (.int n), .val (.int vA), .val (.int vB), .val (.int vC), .val (.int (q3.toInt32)), .val (.int (((q3.toUInt64 >>> ((32 : Int32) &&& 0x3f).toInt64.toUInt64).toInt64).toInt32)), .val (.int (p5 &&& (3 : Int32))), .val (.int vA), .val (.ref b5), .val (.int (1 : Int32))] []))
    refine ogo (fun t k => XS.aload X17.here hx rfl (hb hby at_205) rfl rfl k) ?_
    show OwnEnds _ _ _ _ _ _ _ (T17.setTop (mkF m 207 #[.val (.int p0), .val (.long q1), .second, .val (.int p2), .val (.long q3), .second, .val (.int p4), .val (.int p5), .val (.int n), .val (.int vA), .val (.int vB), .val (.int vC), .val (.int (q3.toInt32)), .val (.int (((q3.toUInt64 >>> ((32 : Int32) &&& 0x3f).toInt64.toUInt64).toInt64).toInt32)), .val (.int (p5 &&& (3 : Int32))), .val (.int vA), .val (.ref b5), .val (.int (1 : Int32))] [(.ref b5)]))
    refine ogo (fun t k => XS.iload X17.here hx rfl (hb hby at_207) rfl k) ?_
    show OwnEnds _ _ _ _ _ _ _ (T17.setTop (mkF m 209 #[.val (.int p0), .val (.long q1), .second, .val (.int p2), .val (.long q3), .second, .val (.int p4), .val (.int p5), .val (.int n), .val (.int vA), .val (.int vB), .val (.int vC), .val (.int (q3.toInt32)), .val (.int (((q3.toUInt64 >>> ((32 : Int32) &&& 0x3f).toInt64.toUInt64).toInt64).toInt32)), .val (.int (p5 &&& (3 : Int32))), .val (.int vA), .val (.ref b5), .val (.int (1 : Int32))] [(.int vB), (.ref b5)]))
    obtain ⟨cq18, kq18, q18a, q18b, q18c⟩ := isOf hZ e17 E15a
    obtain ⟨v18, _, ⟨T18, L18, k18, n18⟩, -, X18, ⟨Lc18, hQ18, l18, y18, z18⟩, st18⟩ := X17.virtualBack hx (y := (⟨"com/example/dispatchwave/dispatchwave/model/VertexLabels", "get", "(I)I"⟩ : MethodName)) (z := (⟨"com/example/dispatchwave/dispatchwave/model/VertexLabels", "get", "(I)I"⟩ : MethodName)) hown (mvT hZ (hw _ (List.mem_of_getElem? (i := 20) rfl))) (mvT hZ (hw _ (List.mem_of_getElem? (i := 21) rfl))) (notFace_of_selects (args := #[]) (mvT hZ (hw _ (List.mem_of_getElem? (i := 23) rfl)))) (mvT hZ (hw _ (List.mem_of_getElem? (i := 23) rfl))) (mvT hZ (hw _ (List.mem_of_getElem? (i := 22) rfl))) (by decide) (backOf (W := 0) (rm2 l Z a0 hw [] b5 vB n (fupd (fupd (fupd (fun _ => 0) vA.toInt.toNat (q3.toInt32)) vB.toInt.toNat (((q3.toUInt64 >>> ((32 : Int32) &&& 0x3f).toInt64.toUInt64).toInt64).toInt32)) vC.toInt.toNat p4) _ T15.heap n0 Z15 hL15 hn ivB) hZ (hw _ (List.mem_of_getElem? (i := 24) rfl)) (hw _ (List.mem_of_getElem? (i := 7) rfl)) (by decide) (by decide)) q18a q18c (g := (mkF m 209 #[.val (.int p0), .val (.long q1), .second, .val (.int p2), .val (.long q3), .second, .val (.int p4), .val (.int p5), .val (.int n), .val (.int vA), .val (.int vB), .val (.int vC), .val (.int (q3.toInt32)), .val (.int (((q3.toUInt64 >>> ((32 : Int32) &&& 0x3f).toInt64.toUInt64).toInt64).toInt32)), .val (.int (p5 &&& (3 : Int32))), .val (.int vA), .val (.ref b5), .val (.int (1 : Int32))] [(.int vB), (.ref b5)])) rfl (by rw [hml]; rfl) (Steps.refl _) (argsL := [(.int vB)]) (rest := []) (lenOf pd__I_I rfl) rfl (by show 2 * 0 + _ ≤ _; exact Nat.le_of_eq rfl) (hb hby at_209) (fun _ _ => ⟨rfl, e17, (by decide : 5 + 0 ≤ _), (by decide : 1413 + 0 ≤ _)⟩)
    dsimp only [Pt.U, Pt.locs, Pt.cells, Pt.slots] at X18 l18 y18 z18 st18 hQ18
    subst l18 y18 z18
    obtain ⟨hv18, N18q, e18⟩ := hQ18
    obtain rfl : v18 = some (.int (own_exp vB vA (q3.toInt32) vB (((q3.toUInt64 >>> ((32 : Int32) &&& 0x3f).toInt64.toUInt64).toInt64).toInt32) vC p4)) := hv18.trans (by rw [own_fin ivB ivA ivB ivC])
    have N18 := Fr.app N17 N18q
    refine ogo (fun t k => st18.trans k) ?_
    show OwnEnds _ _ _ _ _ _ _ (T18.setTop (mkF m 212 #[.val (.int p0), .val (.long q1), .second, .val (.int p2), .val (.long q3), .second, .val (.int p4), .val (.int p5), .val (.int n), .val (.int vA), .val (.int vB), .val (.int vC), .val (.int (q3.toInt32)), .val (.int (((q3.toUInt64 >>> ((32 : Int32) &&& 0x3f).toInt64.toUInt64).toInt64).toInt32)), .val (.int (p5 &&& (3 : Int32))), .val (.int vA), .val (.ref b5), .val (.int (1 : Int32))] [(.int (own_exp vB vA (q3.toInt32) vB (((q3.toUInt64 >>> ((32 : Int32) &&& 0x3f).toInt64.toUInt64).toInt64).toInt32) vC p4))]))
    refine ogo (fun t k => XS.iload X18.here hx rfl (hb hby at_212) rfl k) ?_
    show OwnEnds _ _ _ _ _ _ _ (T18.setTop (mkF m 214 #[.val (.int p0), .val (.long q1), .second, .val (.int p2), .val (.long q3), .second, .val (.int p4), .val (.int p5), .val (.int n), .val (.int vA), .val (.int vB), .val (.int vC), .val (.int (q3.toInt32)), .val (.int (((q3.toUInt64 >>> ((32 : Int32) &&& 0x3f).toInt64.toUInt64).toInt64).toInt32)), .val (.int (p5 &&& (3 : Int32))), .val (.int vA), .val (.ref b5), .val (.int (1 : Int32))] [(.int vB), (.int (own_exp vB vA (q3.toInt32) vB (((q3.toUInt64 >>> ((32 : Int32) &&& 0x3f).toInt64.toUInt64).toInt64).toInt32) vC p4))]))
    refine ogo (fun t k => XS.iload X18.here hx rfl (hb hby at_214) rfl k) ?_
    show OwnEnds _ _ _ _ _ _ _ (T18.setTop (mkF m 216 #[.val (.int p0), .val (.long q1), .second, .val (.int p2), .val (.long q3), .second, .val (.int p4), .val (.int p5), .val (.int n), .val (.int vA), .val (.int vB), .val (.int vC), .val (.int (q3.toInt32)), .val (.int (((q3.toUInt64 >>> ((32 : Int32) &&& 0x3f).toInt64.toUInt64).toInt64).toInt32)), .val (.int (p5 &&& (3 : Int32))), .val (.int vA), .val (.ref b5), .val (.int (1 : Int32))] [(.int vA), (.int vB), (.int (own_exp vB vA (q3.toInt32) vB (((q3.toUInt64 >>> ((32 : Int32) &&& 0x3f).toInt64.toUInt64).toInt64).toInt32) vC p4))]))
    refine ogo (fun t k => XS.iload X18.here hx rfl (hb hby at_216) rfl k) ?_
    show OwnEnds _ _ _ _ _ _ _ (T18.setTop (mkF m 218 #[.val (.int p0), .val (.long q1), .second, .val (.int p2), .val (.long q3), .second, .val (.int p4), .val (.int p5), .val (.int n), .val (.int vA), .val (.int vB), .val (.int vC), .val (.int (q3.toInt32)), .val (.int (((q3.toUInt64 >>> ((32 : Int32) &&& 0x3f).toInt64.toUInt64).toInt64).toInt32)), .val (.int (p5 &&& (3 : Int32))), .val (.int vA), .val (.ref b5), .val (.int (1 : Int32))] [(.int (q3.toInt32)), (.int vA), (.int vB), (.int (own_exp vB vA (q3.toInt32) vB (((q3.toUInt64 >>> ((32 : Int32) &&& 0x3f).toInt64.toUInt64).toInt64).toInt32) vC p4))]))
    refine ogo (fun t k => XS.iload X18.here hx rfl (hb hby at_218) rfl k) ?_
    show OwnEnds _ _ _ _ _ _ _ (T18.setTop (mkF m 220 #[.val (.int p0), .val (.long q1), .second, .val (.int p2), .val (.long q3), .second, .val (.int p4), .val (.int p5), .val (.int n), .val (.int vA), .val (.int vB), .val (.int vC), .val (.int (q3.toInt32)), .val (.int (((q3.toUInt64 >>> ((32 : Int32) &&& 0x3f).toInt64.toUInt64).toInt64).toInt32)), .val (.int (p5 &&& (3 : Int32))), .val (.int vA), .val (.ref b5), .val (.int (1 : Int32))] [(.int vB), (.int (q3.toInt32)), (.int vA), (.int vB), (.int (own_exp vB vA (q3.toInt32) vB (((q3.toUInt64 >>> ((32 : Int32) &&& 0x3f).toInt64.toUInt64).toInt64).toInt32) vC p4))]))
    refine ogo (fun t k => XS.iload X18.here hx rfl (hb hby at_220) rfl k) ?_
    show OwnEnds _ _ _ _ _ _ _ (T18.setTop (mkF m 222 #[.val (.int p0), .val (.long q1), .second, .val (.int p2), .val (.long q3), .second, .val (.int p4), .val (.int p5), .val (.int n), .val (.int vA), .val (.int vB), .val (.int vC), .val (.int (q3.toInt32)), .val (.int (((q3.toUInt64 >>> ((32 : Int32) &&& 0x3f).toInt64.toUInt64).toInt64).toInt32)), .val (.int (p5 &&& (3 : Int32))), .val (.int vA), .val (.ref b5), .val (.int (1 : Int32))] [(.int (((q3.toUInt64 >>> ((32 : Int32) &&& 0x3f).toInt64.toUInt64).toInt64).toInt32)), (.int vB), (.int (q3.toInt32)), (.int vA), (.int vB), (.int (own_exp vB vA (q3.toInt32) vB (((q3.toUInt64 >>> ((32 : Int32) &&& 0x3f).toInt64.toUInt64).toInt64).toInt32) vC p4))]))
    refine ogo (fun t k => XS.iload X18.here hx rfl (hb hby at_222) rfl k) ?_
    show OwnEnds _ _ _ _ _ _ _ (T18.setTop (mkF m 224 #[.val (.int p0), .val (.long q1), .second, .val (.int p2), .val (.long q3), .second, .val (.int p4), .val (.int p5), .val (.int n), .val (.int vA), .val (.int vB), .val (.int vC), .val (.int (q3.toInt32)), .val (.int (((q3.toUInt64 >>> ((32 : Int32) &&& 0x3f).toInt64.toUInt64).toInt64).toInt32)), .val (.int (p5 &&& (3 : Int32))), .val (.int vA), .val (.ref b5), .val (.int (1 : Int32))] [(.int vC), (.int (((q3.toUInt64 >>> ((32 : Int32) &&& 0x3f).toInt64.toUInt64).toInt64).toInt32)), (.int vB), (.int (q3.toInt32)), (.int vA), (.int vB), (.int (own_exp vB vA (q3.toInt32) vB (((q3.toUInt64 >>> ((32 : Int32) &&& 0x3f).toInt64.toUInt64).toInt64).toInt32) vC p4))]))
    refine ogo (fun t k => XS.iload X18.here hx rfl (hb hby at_224) rfl k) ?_
    show OwnEnds _ _ _ _ _ _ _ (T18.setTop (mkF m 226 #[.val (.int p0), .val (.long q1), .second, .val (.int p2), .val (.long q3), .second, .val (.int p4), .val (.int p5), .val (.int n), .val (.int vA), .val (.int vB), .val (.int vC), .val (.int (q3.toInt32)), .val (.int (((q3.toUInt64 >>> ((32 : Int32) &&& 0x3f).toInt64.toUInt64).toInt64).toInt32)), .val (.int (p5 &&& (3 : Int32))), .val (.int vA), .val (.ref b5), .val (.int (1 : Int32))] [(.int p4), (.int vC), (.int (((q3.toUInt64 >>> ((32 : Int32) &&& 0x3f).toInt64.toUInt64).toInt64).toInt32)), (.int vB), (.int (q3.toInt32)), (.int vA), (.int vB), (.int (own_exp vB vA (q3.toInt32) vB (((q3.toUInt64 >>> ((32 : Int32) &&& 0x3f).toInt64.toUInt64).toInt64).toInt32) vC p4))]))
    obtain ⟨v19, _, ⟨T19, L19, k19, n19⟩, -, X19, ⟨Lc19, hQ19, l19, y19, z19⟩, st19⟩ := Jvm.LawKit.callS X18 hx (y := (⟨"com/example/dispatchwave/dispatchwave/model/VertexLabelsGetPinLaw", "expected", "(IIIIIII)I"⟩ : MethodName)) hown (mvT hZ (hw _ (List.mem_of_getElem? (i := 40) rfl))) (mvT hZ (hw _ (List.mem_of_getElem? (i := 41) rfl))) (mvT hZ (hw _ (List.mem_of_getElem? (i := 2) rfl))) (mvT hZ (hw _ (List.mem_of_getElem? (i := 42) rfl))) (by decide) (backOf (W := 1) (rm7 l Z a0 hw [] vB vA (q3.toInt32) vB (((q3.toUInt64 >>> ((32 : Int32) &&& 0x3f).toInt64.toUInt64).toInt64).toInt32) vC p4 T15.heap n0 Z15 ) hZ (hw _ (List.mem_of_getElem? (i := 42) rfl)) (hw _ (List.mem_of_getElem? (i := 2) rfl)) (by decide) (by decide)) (g := (mkF m 226 #[.val (.int p0), .val (.long q1), .second, .val (.int p2), .val (.long q3), .second, .val (.int p4), .val (.int p5), .val (.int n), .val (.int vA), .val (.int vB), .val (.int vC), .val (.int (q3.toInt32)), .val (.int (((q3.toUInt64 >>> ((32 : Int32) &&& 0x3f).toInt64.toUInt64).toInt64).toInt32)), .val (.int (p5 &&& (3 : Int32))), .val (.int vA), .val (.ref b5), .val (.int (1 : Int32))] [(.int p4), (.int vC), (.int (((q3.toUInt64 >>> ((32 : Int32) &&& 0x3f).toInt64.toUInt64).toInt64).toInt32)), (.int vB), (.int (q3.toInt32)), (.int vA), (.int vB), (.int (own_exp vB vA (q3.toInt32) vB (((q3.toUInt64 >>> ((32 : Int32) &&& 0x3f).toInt64.toUInt64).toInt64).toInt32) vC p4))])) rfl (by rw [hml]; rfl) (argsL := [(.int vB), (.int vA), (.int (q3.toInt32)), (.int vB), (.int (((q3.toUInt64 >>> ((32 : Int32) &&& 0x3f).toInt64.toUInt64).toInt64).toInt32)), (.int vC), (.int p4)]) (rest := [(.int (own_exp vB vA (q3.toInt32) vB (((q3.toUInt64 >>> ((32 : Int32) &&& 0x3f).toInt64.toUInt64).toInt64).toInt32) vC p4))]) (lenOf pd__IIIIIII_I rfl) rfl (by show 2 * 0 + _ ≤ _; exact Nat.le_of_eq rfl) (hb hby at_226) (fun _ _ => ⟨rfl, e18, (by decide : 5 + 0 ≤ _), (by decide : 1413 + 0 ≤ _)⟩)
    dsimp only [Pt.U, Pt.locs, Pt.cells, Pt.slots] at X19 l19 y19 z19 st19 hQ19
    subst l19 y19 z19
    obtain ⟨rfl, N19q, e19⟩ := hQ19
    have N19 := Fr.app N18 N19q
    refine ogo (fun t k => st19 t k) ?_
    show OwnEnds _ _ _ _ _ _ _ (T19.setTop (mkF m 229 #[.val (.int p0), .val (.long q1), .second, .val (.int p2), .val (.long q3), .second, .val (.int p4), .val (.int p5), .val (.int n), .val (.int vA), .val (.int vB), .val (.int vC), .val (.int (q3.toInt32)), .val (.int (((q3.toUInt64 >>> ((32 : Int32) &&& 0x3f).toInt64.toUInt64).toInt64).toInt32)), .val (.int (p5 &&& (3 : Int32))), .val (.int vA), .val (.ref b5), .val (.int (1 : Int32))] [(.int (own_exp vB vA (q3.toInt32) vB (((q3.toUInt64 >>> ((32 : Int32) &&& 0x3f).toInt64.toUInt64).toInt64).toInt32) vC p4)), (.int (own_exp vB vA (q3.toInt32) vB (((q3.toUInt64 >>> ((32 : Int32) &&& 0x3f).toInt64.toUInt64).toInt64).toInt32) vC p4))]))
    refine ogo (fun t k => XS.icmpNo X19.here hx rfl (hb hby at_229) rfl (teq (rfl : (own_exp vB vA (q3.toInt32) vB (((q3.toUInt64 >>> ((32 : Int32) &&& 0x3f).toInt64.toUInt64).toInt64).toInt32) vC p4) = (own_exp vB vA (q3.toInt32) vB (((q3.toUInt64 >>> ((32 : Int32) &&& 0x3f).toInt64.toUInt64).toInt64).toInt32) vC p4))).2 k) ?_
    show OwnEnds _ _ _ _ _ _ _ (T19.setTop (mkF m 232 #[.val (.int p0), .val (.long q1), .second, .val (.int p2), .val (.long q3), .second, .val (.int p4), .val (.int p5), .val (.int n), .val (.int vA), .val (.int vB), .val (.int vC), .val (.int (q3.toInt32)), .val (.int (((q3.toUInt64 >>> ((32 : Int32) &&& 0x3f).toInt64.toUInt64).toInt64).toInt32)), .val (.int (p5 &&& (3 : Int32))), .val (.int vA), .val (.ref b5), .val (.int (1 : Int32))] []))
    refine ogo (fun t k => XS.iconst X19.here hx rfl (hb hby at_232) k) ?_
    show OwnEnds _ _ _ _ _ _ _ (T19.setTop (mkF m 233 #[.val (.int p0), .val (.long q1), .second, .val (.int p2), .val (.long q3), .second, .val (.int p4), .val (.int p5), .val (.int n), .val (.int vA), .val (.int vB), .val (.int vC), .val (.int (q3.toInt32)), .val (.int (((q3.toUInt64 >>> ((32 : Int32) &&& 0x3f).toInt64.toUInt64).toInt64).toInt32)), .val (.int (p5 &&& (3 : Int32))), .val (.int vA), .val (.ref b5), .val (.int (1 : Int32))] [(.int (1 : Int32))]))
    refine ogo (fun t k => XS.goto X19.here hx rfl (pc0 := 233) (pc' := 237) rfl (hb hby at_233) (by decide) (by decide) k) ?_
    show OwnEnds _ _ _ _ _ _ _ (T19.setTop (mkF m 237 #[.val (.int p0), .val (.long q1), .second, .val (.int p2), .val (.long q3), .second, .val (.int p4), .val (.int p5), .val (.int n), .val (.int vA), .val (.int vB), .val (.int vC), .val (.int (q3.toInt32)), .val (.int (((q3.toUInt64 >>> ((32 : Int32) &&& 0x3f).toInt64.toUInt64).toInt64).toInt32)), .val (.int (p5 &&& (3 : Int32))), .val (.int vA), .val (.ref b5), .val (.int (1 : Int32))] [(.int (1 : Int32))]))
    refine ogo (fun t k => XS.istore X19.here hx rfl (hb hby at_237) rfl (l' := #[.val (.int p0), .val (.long q1), .second, .val (.int p2), .val (.long q3), .second, .val (.int p4), .val (.int p5), .val (.int n), .val (.int vA), .val (.int vB), .val (.int vC), .val (.int (q3.toInt32)), .val (.int (((q3.toUInt64 >>> ((32 : Int32) &&& 0x3f).toInt64.toUInt64).toInt64).toInt32)), .val (.int (p5 &&& (3 : Int32))), .val (.int vA), .val (.ref b5), .val (.int (1 : Int32))]) rfl k) ?_
    show OwnEnds _ _ _ _ _ _ _ (T19.setTop (mkF m 239 #[.val (.int p0), .val (.long q1), .second, .val (.int p2), .val (.long q3), .second, .val (.int p4), .val (.int p5), .val (.int n), .val (.int vA), .val (.int vB), .val (.int vC), .val (.int (q3.toInt32)), .val (.int (((q3.toUInt64 >>> ((32 : Int32) &&& 0x3f).toInt64.toUInt64).toInt64).toInt32)), .val (.int (p5 &&& (3 : Int32))), .val (.int vA), .val (.ref b5), .val (.int (1 : Int32))] []))
    refine ogo (fun t k => XS.iload X19.here hx rfl (hb hby at_239) rfl k) ?_
    show OwnEnds _ _ _ _ _ _ _ (T19.setTop (mkF m 241 #[.val (.int p0), .val (.long q1), .second, .val (.int p2), .val (.long q3), .second, .val (.int p4), .val (.int p5), .val (.int n), .val (.int vA), .val (.int vB), .val (.int vC), .val (.int (q3.toInt32)), .val (.int (((q3.toUInt64 >>> ((32 : Int32) &&& 0x3f).toInt64.toUInt64).toInt64).toInt32)), .val (.int (p5 &&& (3 : Int32))), .val (.int vA), .val (.ref b5), .val (.int (1 : Int32))] [(.int (1 : Int32))]))
    refine ogo (fun t k => XS.ifNo X19.here hx rfl (hb hby at_241) rfl ((if0 _ _).trans (feq (by decide : ¬ ((1 : Int32) = (0 : Int32)))).1) k) ?_
    show OwnEnds _ _ _ _ _ _ _ (T19.setTop (mkF m 244 #[.val (.int p0), .val (.long q1), .second, .val (.int p2), .val (.long q3), .second, .val (.int p4), .val (.int p5), .val (.int n), .val (.int vA), .val (.int vB), .val (.int vC), .val (.int (q3.toInt32)), .val (.int (((q3.toUInt64 >>> ((32 : Int32) &&& 0x3f).toInt64.toUInt64).toInt64).toInt32)), .val (.int (p5 &&& (3 : Int32))), .val (.int vA), .val (.ref b5), .val (.int (1 : Int32))] []))
    refine ogo (fun t k => XS.aload X19.here hx rfl (hb hby at_244) rfl rfl k) ?_
    show OwnEnds _ _ _ _ _ _ _ (T19.setTop (mkF m 246 #[.val (.int p0), .val (.long q1), .second, .val (.int p2), .val (.long q3), .second, .val (.int p4), .val (.int p5), .val (.int n), .val (.int vA), .val (.int vB), .val (.int vC), .val (.int (q3.toInt32)), .val (.int (((q3.toUInt64 >>> ((32 : Int32) &&& 0x3f).toInt64.toUInt64).toInt64).toInt32)), .val (.int (p5 &&& (3 : Int32))), .val (.int vA), .val (.ref b5), .val (.int (1 : Int32))] [(.ref b5)]))
    refine ogo (fun t k => XS.iload X19.here hx rfl (hb hby at_246) rfl k) ?_
    show OwnEnds _ _ _ _ _ _ _ (T19.setTop (mkF m 248 #[.val (.int p0), .val (.long q1), .second, .val (.int p2), .val (.long q3), .second, .val (.int p4), .val (.int p5), .val (.int n), .val (.int vA), .val (.int vB), .val (.int vC), .val (.int (q3.toInt32)), .val (.int (((q3.toUInt64 >>> ((32 : Int32) &&& 0x3f).toInt64.toUInt64).toInt64).toInt32)), .val (.int (p5 &&& (3 : Int32))), .val (.int vA), .val (.ref b5), .val (.int (1 : Int32))] [(.int vC), (.ref b5)]))
    obtain ⟨cq20, kq20, q20a, q20b, q20c⟩ := isOf hZ e19 E15a
    obtain ⟨v20, _, ⟨T20, L20, k20, n20⟩, -, X20, ⟨Lc20, hQ20, l20, y20, z20⟩, st20⟩ := X19.virtualBack hx (y := (⟨"com/example/dispatchwave/dispatchwave/model/VertexLabels", "get", "(I)I"⟩ : MethodName)) (z := (⟨"com/example/dispatchwave/dispatchwave/model/VertexLabels", "get", "(I)I"⟩ : MethodName)) hown (mvT hZ (hw _ (List.mem_of_getElem? (i := 20) rfl))) (mvT hZ (hw _ (List.mem_of_getElem? (i := 21) rfl))) (notFace_of_selects (args := #[]) (mvT hZ (hw _ (List.mem_of_getElem? (i := 23) rfl)))) (mvT hZ (hw _ (List.mem_of_getElem? (i := 23) rfl))) (mvT hZ (hw _ (List.mem_of_getElem? (i := 22) rfl))) (by decide) (backOf (W := 0) (rm2 l Z a0 hw [] b5 vC n (fupd (fupd (fupd (fun _ => 0) vA.toInt.toNat (q3.toInt32)) vB.toInt.toNat (((q3.toUInt64 >>> ((32 : Int32) &&& 0x3f).toInt64.toUInt64).toInt64).toInt32)) vC.toInt.toNat p4) _ T15.heap n0 Z15 hL15 hn ivC) hZ (hw _ (List.mem_of_getElem? (i := 24) rfl)) (hw _ (List.mem_of_getElem? (i := 7) rfl)) (by decide) (by decide)) q20a q20c (g := (mkF m 248 #[.val (.int p0), .val (.long q1), .second, .val (.int p2), .val (.long q3), .second, .val (.int p4), .val (.int p5), .val (.int n), .val (.int vA), .val (.int vB), .val (.int vC), .val (.int (q3.toInt32)), .val (.int (((q3.toUInt64 >>> ((32 : Int32) &&& 0x3f).toInt64.toUInt64).toInt64).toInt32)), .val (.int (p5 &&& (3 : Int32))), .val (.int vA), .val (.ref b5), .val (.int (1 : Int32))] [(.int vC), (.ref b5)])) rfl (by rw [hml]; rfl) (Steps.refl _) (argsL := [(.int vC)]) (rest := []) (lenOf pd__I_I rfl) rfl (by show 2 * 0 + _ ≤ _; exact Nat.le_of_eq rfl) (hb hby at_248) (fun _ _ => ⟨rfl, e19, (by decide : 5 + 0 ≤ _), (by decide : 1413 + 0 ≤ _)⟩)
    dsimp only [Pt.U, Pt.locs, Pt.cells, Pt.slots] at X20 l20 y20 z20 st20 hQ20
    subst l20 y20 z20
    obtain ⟨hv20, N20q, e20⟩ := hQ20
    obtain rfl : v20 = some (.int p4) := hv20.trans (by rw [own_fin3])
    have N20 := Fr.app N19 N20q
    refine ogo (fun t k => st20.trans k) ?_
    show OwnEnds _ _ _ _ _ _ _ (T20.setTop (mkF m 251 #[.val (.int p0), .val (.long q1), .second, .val (.int p2), .val (.long q3), .second, .val (.int p4), .val (.int p5), .val (.int n), .val (.int vA), .val (.int vB), .val (.int vC), .val (.int (q3.toInt32)), .val (.int (((q3.toUInt64 >>> ((32 : Int32) &&& 0x3f).toInt64.toUInt64).toInt64).toInt32)), .val (.int (p5 &&& (3 : Int32))), .val (.int vA), .val (.ref b5), .val (.int (1 : Int32))] [(.int p4)]))
    refine ogo (fun t k => XS.iload X20.here hx rfl (hb hby at_251) rfl k) ?_
    show OwnEnds _ _ _ _ _ _ _ (T20.setTop (mkF m 253 #[.val (.int p0), .val (.long q1), .second, .val (.int p2), .val (.long q3), .second, .val (.int p4), .val (.int p5), .val (.int n), .val (.int vA), .val (.int vB), .val (.int vC), .val (.int (q3.toInt32)), .val (.int (((q3.toUInt64 >>> ((32 : Int32) &&& 0x3f).toInt64.toUInt64).toInt64).toInt32)), .val (.int (p5 &&& (3 : Int32))), .val (.int vA), .val (.ref b5), .val (.int (1 : Int32))] [(.int p4), (.int p4)]))
    refine ogo (fun t k => XS.icmpNo X20.here hx rfl (hb hby at_253) rfl (teq (rfl : p4 = p4)).2 k) ?_
    show OwnEnds _ _ _ _ _ _ _ (T20.setTop (mkF m 256 #[.val (.int p0), .val (.long q1), .second, .val (.int p2), .val (.long q3), .second, .val (.int p4), .val (.int p5), .val (.int n), .val (.int vA), .val (.int vB), .val (.int vC), .val (.int (q3.toInt32)), .val (.int (((q3.toUInt64 >>> ((32 : Int32) &&& 0x3f).toInt64.toUInt64).toInt64).toInt32)), .val (.int (p5 &&& (3 : Int32))), .val (.int vA), .val (.ref b5), .val (.int (1 : Int32))] []))
    refine ogo (fun t k => XS.iconst X20.here hx rfl (hb hby at_256) k) ?_
    show OwnEnds _ _ _ _ _ _ _ (T20.setTop (mkF m 257 #[.val (.int p0), .val (.long q1), .second, .val (.int p2), .val (.long q3), .second, .val (.int p4), .val (.int p5), .val (.int n), .val (.int vA), .val (.int vB), .val (.int vC), .val (.int (q3.toInt32)), .val (.int (((q3.toUInt64 >>> ((32 : Int32) &&& 0x3f).toInt64.toUInt64).toInt64).toInt32)), .val (.int (p5 &&& (3 : Int32))), .val (.int vA), .val (.ref b5), .val (.int (1 : Int32))] [(.int (1 : Int32))]))
    refine ogo (fun t k => XS.goto X20.here hx rfl (pc0 := 257) (pc' := 261) rfl (hb hby at_257) (by decide) (by decide) k) ?_
    show OwnEnds _ _ _ _ _ _ _ (T20.setTop (mkF m 261 #[.val (.int p0), .val (.long q1), .second, .val (.int p2), .val (.long q3), .second, .val (.int p4), .val (.int p5), .val (.int n), .val (.int vA), .val (.int vB), .val (.int vC), .val (.int (q3.toInt32)), .val (.int (((q3.toUInt64 >>> ((32 : Int32) &&& 0x3f).toInt64.toUInt64).toInt64).toInt32)), .val (.int (p5 &&& (3 : Int32))), .val (.int vA), .val (.ref b5), .val (.int (1 : Int32))] [(.int (1 : Int32))]))
    refine ogo (fun t k => XS.istore X20.here hx rfl (hb hby at_261) rfl (l' := #[.val (.int p0), .val (.long q1), .second, .val (.int p2), .val (.long q3), .second, .val (.int p4), .val (.int p5), .val (.int n), .val (.int vA), .val (.int vB), .val (.int vC), .val (.int (q3.toInt32)), .val (.int (((q3.toUInt64 >>> ((32 : Int32) &&& 0x3f).toInt64.toUInt64).toInt64).toInt32)), .val (.int (p5 &&& (3 : Int32))), .val (.int vA), .val (.ref b5), .val (.int (1 : Int32))]) rfl k) ?_
    show OwnEnds _ _ _ _ _ _ _ (T20.setTop (mkF m 263 #[.val (.int p0), .val (.long q1), .second, .val (.int p2), .val (.long q3), .second, .val (.int p4), .val (.int p5), .val (.int n), .val (.int vA), .val (.int vB), .val (.int vC), .val (.int (q3.toInt32)), .val (.int (((q3.toUInt64 >>> ((32 : Int32) &&& 0x3f).toInt64.toUInt64).toInt64).toInt32)), .val (.int (p5 &&& (3 : Int32))), .val (.int vA), .val (.ref b5), .val (.int (1 : Int32))] []))
    refine ogo (fun t k => XS.iload X20.here hx rfl (hb hby at_263) rfl k) ?_
    show OwnEnds _ _ _ _ _ _ _ (T20.setTop (mkF m 265 #[.val (.int p0), .val (.long q1), .second, .val (.int p2), .val (.long q3), .second, .val (.int p4), .val (.int p5), .val (.int n), .val (.int vA), .val (.int vB), .val (.int vC), .val (.int (q3.toInt32)), .val (.int (((q3.toUInt64 >>> ((32 : Int32) &&& 0x3f).toInt64.toUInt64).toInt64).toInt32)), .val (.int (p5 &&& (3 : Int32))), .val (.int vA), .val (.ref b5), .val (.int (1 : Int32))] [(.int (1 : Int32))]))
    refine ogo (fun t k => XS.ifNo X20.here hx rfl (hb hby at_265) rfl ((if0 _ _).trans (feq (by decide : ¬ ((1 : Int32) = (0 : Int32)))).1) k) ?_
    show OwnEnds _ _ _ _ _ _ _ (T20.setTop (mkF m 268 #[.val (.int p0), .val (.long q1), .second, .val (.int p2), .val (.long q3), .second, .val (.int p4), .val (.int p5), .val (.int n), .val (.int vA), .val (.int vB), .val (.int vC), .val (.int (q3.toInt32)), .val (.int (((q3.toUInt64 >>> ((32 : Int32) &&& 0x3f).toInt64.toUInt64).toInt64).toInt32)), .val (.int (p5 &&& (3 : Int32))), .val (.int vA), .val (.ref b5), .val (.int (1 : Int32))] []))
    refine ogo (fun t k => XS.aload X20.here hx rfl (hb hby at_268) rfl rfl k) ?_
    show OwnEnds _ _ _ _ _ _ _ (T20.setTop (mkF m 270 #[.val (.int p0), .val (.long q1), .second, .val (.int p2), .val (.long q3), .second, .val (.int p4), .val (.int p5), .val (.int n), .val (.int vA), .val (.int vB), .val (.int vC), .val (.int (q3.toInt32)), .val (.int (((q3.toUInt64 >>> ((32 : Int32) &&& 0x3f).toInt64.toUInt64).toInt64).toInt32)), .val (.int (p5 &&& (3 : Int32))), .val (.int vA), .val (.ref b5), .val (.int (1 : Int32))] [(.ref b5)]))
    refine ogo (fun t k => XS.iload X20.here hx rfl (hb hby at_270) rfl k) ?_
    show OwnEnds _ _ _ _ _ _ _ (T20.setTop (mkF m 272 #[.val (.int p0), .val (.long q1), .second, .val (.int p2), .val (.long q3), .second, .val (.int p4), .val (.int p5), .val (.int n), .val (.int vA), .val (.int vB), .val (.int vC), .val (.int (q3.toInt32)), .val (.int (((q3.toUInt64 >>> ((32 : Int32) &&& 0x3f).toInt64.toUInt64).toInt64).toInt32)), .val (.int (p5 &&& (3 : Int32))), .val (.int vA), .val (.ref b5), .val (.int (1 : Int32))] [(.int vA), (.ref b5)]))
    obtain ⟨cq21, kq21, q21a, q21b, q21c⟩ := isOf hZ e20 E15a
    obtain ⟨v21, _, ⟨T21, L21, k21, n21⟩, -, X21, ⟨Lc21, hQ21, l21, y21, z21⟩, st21⟩ := X20.virtualBack hx (y := (⟨"com/example/dispatchwave/dispatchwave/model/VertexLabels", "get", "(I)I"⟩ : MethodName)) (z := (⟨"com/example/dispatchwave/dispatchwave/model/VertexLabels", "get", "(I)I"⟩ : MethodName)) hown (mvT hZ (hw _ (List.mem_of_getElem? (i := 20) rfl))) (mvT hZ (hw _ (List.mem_of_getElem? (i := 21) rfl))) (notFace_of_selects (args := #[]) (mvT hZ (hw _ (List.mem_of_getElem? (i := 23) rfl)))) (mvT hZ (hw _ (List.mem_of_getElem? (i := 23) rfl))) (mvT hZ (hw _ (List.mem_of_getElem? (i := 22) rfl))) (by decide) (backOf (W := 0) (rm2 l Z a0 hw [] b5 vA n (fupd (fupd (fupd (fun _ => 0) vA.toInt.toNat (q3.toInt32)) vB.toInt.toNat (((q3.toUInt64 >>> ((32 : Int32) &&& 0x3f).toInt64.toUInt64).toInt64).toInt32)) vC.toInt.toNat p4) _ T15.heap n0 Z15 hL15 hn ivA) hZ (hw _ (List.mem_of_getElem? (i := 24) rfl)) (hw _ (List.mem_of_getElem? (i := 7) rfl)) (by decide) (by decide)) q21a q21c (g := (mkF m 272 #[.val (.int p0), .val (.long q1), .second, .val (.int p2), .val (.long q3), .second, .val (.int p4), .val (.int p5), .val (.int n), .val (.int vA), .val (.int vB), .val (.int vC), .val (.int (q3.toInt32)), .val (.int (((q3.toUInt64 >>> ((32 : Int32) &&& 0x3f).toInt64.toUInt64).toInt64).toInt32)), .val (.int (p5 &&& (3 : Int32))), .val (.int vA), .val (.ref b5), .val (.int (1 : Int32))] [(.int vA), (.ref b5)])) rfl (by rw [hml]; rfl) (Steps.refl _) (argsL := [(.int vA)]) (rest := []) (lenOf pd__I_I rfl) rfl (by show 2 * 0 + _ ≤ _; exact Nat.le_of_eq rfl) (hb hby at_272) (fun _ _ => ⟨rfl, e20, (by decide : 5 + 0 ≤ _), (by decide : 1413 + 0 ≤ _)⟩)
    dsimp only [Pt.U, Pt.locs, Pt.cells, Pt.slots] at X21 l21 y21 z21 st21 hQ21
    subst l21 y21 z21
    obtain ⟨hv21, N21q, e21⟩ := hQ21
    obtain rfl : v21 = some (.int (own_exp vA vA (q3.toInt32) vB (((q3.toUInt64 >>> ((32 : Int32) &&& 0x3f).toInt64.toUInt64).toInt64).toInt32) vC p4)) := hv21.trans (by rw [own_fin ivA ivA ivB ivC])
    have N21 := Fr.app N20 N21q
    refine ogo (fun t k => st21.trans k) ?_
    show OwnEnds _ _ _ _ _ _ _ (T21.setTop (mkF m 275 #[.val (.int p0), .val (.long q1), .second, .val (.int p2), .val (.long q3), .second, .val (.int p4), .val (.int p5), .val (.int n), .val (.int vA), .val (.int vB), .val (.int vC), .val (.int (q3.toInt32)), .val (.int (((q3.toUInt64 >>> ((32 : Int32) &&& 0x3f).toInt64.toUInt64).toInt64).toInt32)), .val (.int (p5 &&& (3 : Int32))), .val (.int vA), .val (.ref b5), .val (.int (1 : Int32))] [(.int (own_exp vA vA (q3.toInt32) vB (((q3.toUInt64 >>> ((32 : Int32) &&& 0x3f).toInt64.toUInt64).toInt64).toInt32) vC p4))]))
    refine ogo (fun t k => XS.iload X21.here hx rfl (hb hby at_275) rfl k) ?_
    show OwnEnds _ _ _ _ _ _ _ (T21.setTop (mkF m 277 #[.val (.int p0), .val (.long q1), .second, .val (.int p2), .val (.long q3), .second, .val (.int p4), .val (.int p5), .val (.int n), .val (.int vA), .val (.int vB), .val (.int vC), .val (.int (q3.toInt32)), .val (.int (((q3.toUInt64 >>> ((32 : Int32) &&& 0x3f).toInt64.toUInt64).toInt64).toInt32)), .val (.int (p5 &&& (3 : Int32))), .val (.int vA), .val (.ref b5), .val (.int (1 : Int32))] [(.int vA), (.int (own_exp vA vA (q3.toInt32) vB (((q3.toUInt64 >>> ((32 : Int32) &&& 0x3f).toInt64.toUInt64).toInt64).toInt32) vC p4))]))
    refine ogo (fun t k => XS.iload X21.here hx rfl (hb hby at_277) rfl k) ?_
    show OwnEnds _ _ _ _ _ _ _ (T21.setTop (mkF m 279 #[.val (.int p0), .val (.long q1), .second, .val (.int p2), .val (.long q3), .second, .val (.int p4), .val (.int p5), .val (.int n), .val (.int vA), .val (.int vB), .val (.int vC), .val (.int (q3.toInt32)), .val (.int (((q3.toUInt64 >>> ((32 : Int32) &&& 0x3f).toInt64.toUInt64).toInt64).toInt32)), .val (.int (p5 &&& (3 : Int32))), .val (.int vA), .val (.ref b5), .val (.int (1 : Int32))] [(.int vA), (.int vA), (.int (own_exp vA vA (q3.toInt32) vB (((q3.toUInt64 >>> ((32 : Int32) &&& 0x3f).toInt64.toUInt64).toInt64).toInt32) vC p4))]))
    refine ogo (fun t k => XS.iload X21.here hx rfl (hb hby at_279) rfl k) ?_
    show OwnEnds _ _ _ _ _ _ _ (T21.setTop (mkF m 281 #[.val (.int p0), .val (.long q1), .second, .val (.int p2), .val (.long q3), .second, .val (.int p4), .val (.int p5), .val (.int n), .val (.int vA), .val (.int vB), .val (.int vC), .val (.int (q3.toInt32)), .val (.int (((q3.toUInt64 >>> ((32 : Int32) &&& 0x3f).toInt64.toUInt64).toInt64).toInt32)), .val (.int (p5 &&& (3 : Int32))), .val (.int vA), .val (.ref b5), .val (.int (1 : Int32))] [(.int (q3.toInt32)), (.int vA), (.int vA), (.int (own_exp vA vA (q3.toInt32) vB (((q3.toUInt64 >>> ((32 : Int32) &&& 0x3f).toInt64.toUInt64).toInt64).toInt32) vC p4))]))
    refine ogo (fun t k => XS.iload X21.here hx rfl (hb hby at_281) rfl k) ?_
    show OwnEnds _ _ _ _ _ _ _ (T21.setTop (mkF m 283 #[.val (.int p0), .val (.long q1), .second, .val (.int p2), .val (.long q3), .second, .val (.int p4), .val (.int p5), .val (.int n), .val (.int vA), .val (.int vB), .val (.int vC), .val (.int (q3.toInt32)), .val (.int (((q3.toUInt64 >>> ((32 : Int32) &&& 0x3f).toInt64.toUInt64).toInt64).toInt32)), .val (.int (p5 &&& (3 : Int32))), .val (.int vA), .val (.ref b5), .val (.int (1 : Int32))] [(.int vB), (.int (q3.toInt32)), (.int vA), (.int vA), (.int (own_exp vA vA (q3.toInt32) vB (((q3.toUInt64 >>> ((32 : Int32) &&& 0x3f).toInt64.toUInt64).toInt64).toInt32) vC p4))]))
    refine ogo (fun t k => XS.iload X21.here hx rfl (hb hby at_283) rfl k) ?_
    show OwnEnds _ _ _ _ _ _ _ (T21.setTop (mkF m 285 #[.val (.int p0), .val (.long q1), .second, .val (.int p2), .val (.long q3), .second, .val (.int p4), .val (.int p5), .val (.int n), .val (.int vA), .val (.int vB), .val (.int vC), .val (.int (q3.toInt32)), .val (.int (((q3.toUInt64 >>> ((32 : Int32) &&& 0x3f).toInt64.toUInt64).toInt64).toInt32)), .val (.int (p5 &&& (3 : Int32))), .val (.int vA), .val (.ref b5), .val (.int (1 : Int32))] [(.int (((q3.toUInt64 >>> ((32 : Int32) &&& 0x3f).toInt64.toUInt64).toInt64).toInt32)), (.int vB), (.int (q3.toInt32)), (.int vA), (.int vA), (.int (own_exp vA vA (q3.toInt32) vB (((q3.toUInt64 >>> ((32 : Int32) &&& 0x3f).toInt64.toUInt64).toInt64).toInt32) vC p4))]))
    refine ogo (fun t k => XS.iload X21.here hx rfl (hb hby at_285) rfl k) ?_
    show OwnEnds _ _ _ _ _ _ _ (T21.setTop (mkF m 287 #[.val (.int p0), .val (.long q1), .second, .val (.int p2), .val (.long q3), .second, .val (.int p4), .val (.int p5), .val (.int n), .val (.int vA), .val (.int vB), .val (.int vC), .val (.int (q3.toInt32)), .val (.int (((q3.toUInt64 >>> ((32 : Int32) &&& 0x3f).toInt64.toUInt64).toInt64).toInt32)), .val (.int (p5 &&& (3 : Int32))), .val (.int vA), .val (.ref b5), .val (.int (1 : Int32))] [(.int vC), (.int (((q3.toUInt64 >>> ((32 : Int32) &&& 0x3f).toInt64.toUInt64).toInt64).toInt32)), (.int vB), (.int (q3.toInt32)), (.int vA), (.int vA), (.int (own_exp vA vA (q3.toInt32) vB (((q3.toUInt64 >>> ((32 : Int32) &&& 0x3f).toInt64.toUInt64).toInt64).toInt32) vC p4))]))
    refine ogo (fun t k => XS.iload X21.here hx rfl (hb hby at_287) rfl k) ?_
    show OwnEnds _ _ _ _ _ _ _ (T21.setTop (mkF m 289 #[.val (.int p0), .val (.long q1), .second, .val (.int p2), .val (.long q3), .second, .val (.int p4), .val (.int p5), .val (.int n), .val (.int vA), .val (.int vB), .val (.int vC), .val (.int (q3.toInt32)), .val (.int (((q3.toUInt64 >>> ((32 : Int32) &&& 0x3f).toInt64.toUInt64).toInt64).toInt32)), .val (.int (p5 &&& (3 : Int32))), .val (.int vA), .val (.ref b5), .val (.int (1 : Int32))] [(.int p4), (.int vC), (.int (((q3.toUInt64 >>> ((32 : Int32) &&& 0x3f).toInt64.toUInt64).toInt64).toInt32)), (.int vB), (.int (q3.toInt32)), (.int vA), (.int vA), (.int (own_exp vA vA (q3.toInt32) vB (((q3.toUInt64 >>> ((32 : Int32) &&& 0x3f).toInt64.toUInt64).toInt64).toInt32) vC p4))]))
    obtain ⟨v22, _, ⟨T22, L22, k22, n22⟩, -, X22, ⟨Lc22, hQ22, l22, y22, z22⟩, st22⟩ := Jvm.LawKit.callS X21 hx (y := (⟨"com/example/dispatchwave/dispatchwave/model/VertexLabelsGetPinLaw", "expected", "(IIIIIII)I"⟩ : MethodName)) hown (mvT hZ (hw _ (List.mem_of_getElem? (i := 40) rfl))) (mvT hZ (hw _ (List.mem_of_getElem? (i := 41) rfl))) (mvT hZ (hw _ (List.mem_of_getElem? (i := 2) rfl))) (mvT hZ (hw _ (List.mem_of_getElem? (i := 42) rfl))) (by decide) (backOf (W := 1) (rm7 l Z a0 hw [] vA vA (q3.toInt32) vB (((q3.toUInt64 >>> ((32 : Int32) &&& 0x3f).toInt64.toUInt64).toInt64).toInt32) vC p4 T15.heap n0 Z15 ) hZ (hw _ (List.mem_of_getElem? (i := 42) rfl)) (hw _ (List.mem_of_getElem? (i := 2) rfl)) (by decide) (by decide)) (g := (mkF m 289 #[.val (.int p0), .val (.long q1), .second, .val (.int p2), .val (.long q3), .second, .val (.int p4), .val (.int p5), .val (.int n), .val (.int vA), .val (.int vB), .val (.int vC), .val (.int (q3.toInt32)), .val (.int (((q3.toUInt64 >>> ((32 : Int32) &&& 0x3f).toInt64.toUInt64).toInt64).toInt32)), .val (.int (p5 &&& (3 : Int32))), .val (.int vA), .val (.ref b5), .val (.int (1 : Int32))] [(.int p4), (.int vC), (.int (((q3.toUInt64 >>> ((32 : Int32) &&& 0x3f).toInt64.toUInt64).toInt64).toInt32)), (.int vB), (.int (q3.toInt32)), (.int vA), (.int vA), (.int (own_exp vA vA (q3.toInt32) vB (((q3.toUInt64 >>> ((32 : Int32) &&& 0x3f).toInt64.toUInt64).toInt64).toInt32) vC p4))])) rfl (by rw [hml]; rfl) (argsL := [(.int vA), (.int vA), (.int (q3.toInt32)), (.int vB), (.int (((q3.toUInt64 >>> ((32 : Int32) &&& 0x3f).toInt64.toUInt64).toInt64).toInt32)), (.int vC), (.int p4)]) (rest := [(.int (own_exp vA vA (q3.toInt32) vB (((q3.toUInt64 >>> ((32 : Int32) &&& 0x3f).toInt64.toUInt64).toInt64).toInt32) vC p4))]) (lenOf pd__IIIIIII_I rfl) rfl (by show 2 * 0 + _ ≤ _; exact Nat.le_of_eq rfl) (hb hby at_289) (fun _ _ => ⟨rfl, e21, (by decide : 5 + 0 ≤ _), (by decide : 1413 + 0 ≤ _)⟩)
    dsimp only [Pt.U, Pt.locs, Pt.cells, Pt.slots] at X22 l22 y22 z22 st22 hQ22
    subst l22 y22 z22
    obtain ⟨rfl, N22q, e22⟩ := hQ22
    have N22 := Fr.app N21 N22q
    refine ogo (fun t k => st22 t k) ?_
    show OwnEnds _ _ _ _ _ _ _ (T22.setTop (mkF m 292 #[.val (.int p0), .val (.long q1), .second, .val (.int p2), .val (.long q3), .second, .val (.int p4), .val (.int p5), .val (.int n), .val (.int vA), .val (.int vB), .val (.int vC), .val (.int (q3.toInt32)), .val (.int (((q3.toUInt64 >>> ((32 : Int32) &&& 0x3f).toInt64.toUInt64).toInt64).toInt32)), .val (.int (p5 &&& (3 : Int32))), .val (.int vA), .val (.ref b5), .val (.int (1 : Int32))] [(.int (own_exp vA vA (q3.toInt32) vB (((q3.toUInt64 >>> ((32 : Int32) &&& 0x3f).toInt64.toUInt64).toInt64).toInt32) vC p4)), (.int (own_exp vA vA (q3.toInt32) vB (((q3.toUInt64 >>> ((32 : Int32) &&& 0x3f).toInt64.toUInt64).toInt64).toInt32) vC p4))]))
    refine ogo (fun t k => XS.icmpNo X22.here hx rfl (hb hby at_292) rfl (teq (rfl : (own_exp vA vA (q3.toInt32) vB (((q3.toUInt64 >>> ((32 : Int32) &&& 0x3f).toInt64.toUInt64).toInt64).toInt32) vC p4) = (own_exp vA vA (q3.toInt32) vB (((q3.toUInt64 >>> ((32 : Int32) &&& 0x3f).toInt64.toUInt64).toInt64).toInt32) vC p4))).2 k) ?_
    show OwnEnds _ _ _ _ _ _ _ (T22.setTop (mkF m 295 #[.val (.int p0), .val (.long q1), .second, .val (.int p2), .val (.long q3), .second, .val (.int p4), .val (.int p5), .val (.int n), .val (.int vA), .val (.int vB), .val (.int vC), .val (.int (q3.toInt32)), .val (.int (((q3.toUInt64 >>> ((32 : Int32) &&& 0x3f).toInt64.toUInt64).toInt64).toInt32)), .val (.int (p5 &&& (3 : Int32))), .val (.int vA), .val (.ref b5), .val (.int (1 : Int32))] []))
    refine ogo (fun t k => XS.iconst X22.here hx rfl (hb hby at_295) k) ?_
    show OwnEnds _ _ _ _ _ _ _ (T22.setTop (mkF m 296 #[.val (.int p0), .val (.long q1), .second, .val (.int p2), .val (.long q3), .second, .val (.int p4), .val (.int p5), .val (.int n), .val (.int vA), .val (.int vB), .val (.int vC), .val (.int (q3.toInt32)), .val (.int (((q3.toUInt64 >>> ((32 : Int32) &&& 0x3f).toInt64.toUInt64).toInt64).toInt32)), .val (.int (p5 &&& (3 : Int32))), .val (.int vA), .val (.ref b5), .val (.int (1 : Int32))] [(.int (1 : Int32))]))
    refine ogo (fun t k => XS.goto X22.here hx rfl (pc0 := 296) (pc' := 300) rfl (hb hby at_296) (by decide) (by decide) k) ?_
    show OwnEnds _ _ _ _ _ _ _ (T22.setTop (mkF m 300 #[.val (.int p0), .val (.long q1), .second, .val (.int p2), .val (.long q3), .second, .val (.int p4), .val (.int p5), .val (.int n), .val (.int vA), .val (.int vB), .val (.int vC), .val (.int (q3.toInt32)), .val (.int (((q3.toUInt64 >>> ((32 : Int32) &&& 0x3f).toInt64.toUInt64).toInt64).toInt32)), .val (.int (p5 &&& (3 : Int32))), .val (.int vA), .val (.ref b5), .val (.int (1 : Int32))] [(.int (1 : Int32))]))
    refine ogo (fun t k => XS.istore X22.here hx rfl (hb hby at_300) rfl (l' := #[.val (.int p0), .val (.long q1), .second, .val (.int p2), .val (.long q3), .second, .val (.int p4), .val (.int p5), .val (.int n), .val (.int vA), .val (.int vB), .val (.int vC), .val (.int (q3.toInt32)), .val (.int (((q3.toUInt64 >>> ((32 : Int32) &&& 0x3f).toInt64.toUInt64).toInt64).toInt32)), .val (.int (p5 &&& (3 : Int32))), .val (.int vA), .val (.ref b5), .val (.int (1 : Int32))]) rfl k) ?_
    show OwnEnds _ _ _ _ _ _ _ (T22.setTop (mkF m 302 #[.val (.int p0), .val (.long q1), .second, .val (.int p2), .val (.long q3), .second, .val (.int p4), .val (.int p5), .val (.int n), .val (.int vA), .val (.int vB), .val (.int vC), .val (.int (q3.toInt32)), .val (.int (((q3.toUInt64 >>> ((32 : Int32) &&& 0x3f).toInt64.toUInt64).toInt64).toInt32)), .val (.int (p5 &&& (3 : Int32))), .val (.int vA), .val (.ref b5), .val (.int (1 : Int32))] []))
    refine ogo (fun t k => XS.iload X22.here hx rfl (hb hby at_302) rfl k) ?_
    show OwnEnds _ _ _ _ _ _ _ (T22.setTop (mkF m 304 #[.val (.int p0), .val (.long q1), .second, .val (.int p2), .val (.long q3), .second, .val (.int p4), .val (.int p5), .val (.int n), .val (.int vA), .val (.int vB), .val (.int vC), .val (.int (q3.toInt32)), .val (.int (((q3.toUInt64 >>> ((32 : Int32) &&& 0x3f).toInt64.toUInt64).toInt64).toInt32)), .val (.int (p5 &&& (3 : Int32))), .val (.int vA), .val (.ref b5), .val (.int (1 : Int32))] [(.int (1 : Int32))]))
    refine endZ X22 hx hlk hret rfl (hb hby at_304) (by decide) (by decide) ?_
    show Q0 Z p0 q1 p2 q3 p4 p5 h0 n0 _ T22.heap _
    rw [e22]
    exact ⟨rfl, N22⟩
  · refine ogo (fun t k => XS.ifYes X3.here hx rfl (pc0 := 59) (pc' := 69) rfl (hb hby at_59) rfl ((if0 _ _).trans (feq hc4).2) (by decide) (by decide) k) ?_
    show OwnEnds _ _ _ _ _ _ _ (T3.setTop (mkF m 69 #[.val (.int p0), .val (.long q1), .second, .val (.int p2), .val (.long q3), .second, .val (.int p4), .val (.int p5), .val (.int n), .val (.int vA), .val (.int vB), .val (.int vC), .val (.int (q3.toInt32)), .val (.int (((q3.toUInt64 >>> ((32 : Int32) &&& 0x3f).toInt64.toUInt64).toInt64).toInt32)), .val (.int (p5 &&& (3 : Int32))), .unset, .unset, .unset] []))
    refine ogo (fun t k => XS.iload X3.here hx rfl (hb hby at_69) rfl k) ?_
    show OwnEnds _ _ _ _ _ _ _ (T3.setTop (mkF m 71 #[.val (.int p0), .val (.long q1), .second, .val (.int p2), .val (.long q3), .second, .val (.int p4), .val (.int p5), .val (.int n), .val (.int vA), .val (.int vB), .val (.int vC), .val (.int (q3.toInt32)), .val (.int (((q3.toUInt64 >>> ((32 : Int32) &&& 0x3f).toInt64.toUInt64).toInt64).toInt32)), .val (.int (p5 &&& (3 : Int32))), .unset, .unset, .unset] [(.int (p5 &&& (3 : Int32)))]))
    refine ogo (fun t k => XS.iconst X3.here hx rfl (hb hby at_71) k) ?_
    show OwnEnds _ _ _ _ _ _ _ (T3.setTop (mkF m 72 #[.val (.int p0), .val (.long q1), .second, .val (.int p2), .val (.long q3), .second, .val (.int p4), .val (.int p5), .val (.int n), .val (.int vA), .val (.int vB), .val (.int vC), .val (.int (q3.toInt32)), .val (.int (((q3.toUInt64 >>> ((32 : Int32) &&& 0x3f).toInt64.toUInt64).toInt64).toInt32)), .val (.int (p5 &&& (3 : Int32))), .unset, .unset, .unset] [(.int (1 : Int32)), (.int (p5 &&& (3 : Int32)))]))
    by_cases hc23 : (p5 &&& (3 : Int32)) = (1 : Int32)
    · refine ogo (fun t k => XS.icmpNo X3.here hx rfl (hb hby at_72) rfl (teq hc23).2 k) ?_
      show OwnEnds _ _ _ _ _ _ _ (T3.setTop (mkF m 75 #[.val (.int p0), .val (.long q1), .second, .val (.int p2), .val (.long q3), .second, .val (.int p4), .val (.int p5), .val (.int n), .val (.int vA), .val (.int vB), .val (.int vC), .val (.int (q3.toInt32)), .val (.int (((q3.toUInt64 >>> ((32 : Int32) &&& 0x3f).toInt64.toUInt64).toInt64).toInt32)), .val (.int (p5 &&& (3 : Int32))), .unset, .unset, .unset] []))
      refine ogo (fun t k => XS.iload X3.here hx rfl (hb hby at_75) rfl k) ?_
      show OwnEnds _ _ _ _ _ _ _ (T3.setTop (mkF m 77 #[.val (.int p0), .val (.long q1), .second, .val (.int p2), .val (.long q3), .second, .val (.int p4), .val (.int p5), .val (.int n), .val (.int vA), .val (.int vB), .val (.int vC), .val (.int (q3.toInt32)), .val (.int (((q3.toUInt64 >>> ((32 : Int32) &&& 0x3f).toInt64.toUInt64).toInt64).toInt32)), .val (.int (p5 &&& (3 : Int32))), .unset, .unset, .unset] [(.int vB)]))
      refine ogo (fun t k => XS.istore X3.here hx rfl (hb hby at_77) rfl (l' := #[.val (.int p0), .val (.long q1), .second, .val (.int p2), .val (.long q3), .second, .val (.int p4), .val (.int p5), .val (.int n), .val (.int vA), .val (.int vB), .val (.int vC), .val (.int (q3.toInt32)), .val (.int (((q3.toUInt64 >>> ((32 : Int32) &&& 0x3f).toInt64.toUInt64).toInt64).toInt32)), .val (.int (p5 &&& (3 : Int32))), .val (.int vB), .unset, .unset]) rfl k) ?_
      show OwnEnds _ _ _ _ _ _ _ (T3.setTop (mkF m 79 #[.val (.int p0), .val (.long q1), .second, .val (.int p2), .val (.long q3), .second, .val (.int p4), .val (.int p5), .val (.int n), .val (.int vA), .val (.int vB), .val (.int vC), .val (.int (q3.toInt32)), .val (.int (((q3.toUInt64 >>> ((32 : Int32) &&& 0x3f).toInt64.toUInt64).toInt64).toInt32)), .val (.int (p5 &&& (3 : Int32))), .val (.int vB), .unset, .unset] []))
      refine ogo (fun t k => XS.goto X3.here hx rfl (pc0 := 79) (pc' := 106) rfl (hb hby at_79) (by decide) (by decide) k) ?_
      show OwnEnds _ _ _ _ _ _ _ (T3.setTop (mkF m 106 #[.val (.int p0), .val (.long q1), .second, .val (.int p2), .val (.long q3), .second, .val (.int p4), .val (.int p5), .val (.int n), .val (.int vA), .val (.int vB), .val (.int vC), .val (.int (q3.toInt32)), .val (.int (((q3.toUInt64 >>> ((32 : Int32) &&& 0x3f).toInt64.toUInt64).toInt64).toInt32)), .val (.int (p5 &&& (3 : Int32))), .val (.int vB), .unset, .unset] []))
      obtain ⟨T24, h24, X24, e24, E24, A24, D24, -, st24⟩ := newO X3 hx hZ hown (hw _ (List.mem_of_getElem? (i := 5) rfl)) (hw _ (List.mem_of_getElem? (i := 6) rfl)) (hw _ (List.mem_of_getElem? (i := 7) rfl)) e3 (g := (mkF m 106 #[.val (.int p0), .val (.long q1), .second, .val (.int p2), .val (.long q3), .second, .val (.int p4), .val (.int p5), .val (.int n), .val (.int vA), .val (.int vB), .val (.int vC), .val (.int (q3.toInt32)), .val (.int (((q3.toUInt64 >>> ((32 : Int32) &&& 0x3f).toInt64.toUInt64).toInt64).toInt32)), .val (.int (p5 &&& (3 : Int32))), .val (.int vB), .unset, .unset] [])) rfl (hb hby at_106) (by decide) (by decide)
      obtain ⟨b24, g24⟩ : ∃ z, z = h0.size := ⟨_, rfl⟩
      rw [← g24] at A24 D24 st24
      have q_b24 : n0 ≤ b24 := Nat.le_trans Z0 (Nat.le_of_eq g24.symm)
      have OLD25 := OLD.ext E24
      have Z25 := Nat.le_trans Z0 E24.1
      have f26 : Fld Z h24 b24 "com/example/dispatchwave/dispatchwave/model/VertexLabels" "vertexCount" "I" (.int (0 : Int32)) := D24 (Or.inr (hw _ (List.mem_of_getElem? (i := 15) rfl))) (ty := .int) (by decide)
      have f27 : Fld Z h24 b24 "com/example/dispatchwave/dispatchwave/model/VertexLabels" "pages" "[[I" .null := D24 (Or.inl (hw _ (List.mem_of_getElem? (i := 19) rfl))) (ty := (.array (.array .int))) (by decide)
      have f28 : Fld Z h24 b24 "com/example/dispatchwave/dispatchwave/model/VertexLabels" "array" "[I" .null := D24 (Or.inl (hw _ (List.mem_of_getElem? (i := 26) rfl))) (ty := (.array .int)) (by decide)
      have f29 : Fld Z h24 b24 "com/example/dispatchwave/dispatchwave/model/VertexLabels" "made" "I" (.int (0 : Int32)) := D24 (Or.inl (hw _ (List.mem_of_getElem? (i := 38) rfl))) (ty := .int) (by decide)
      refine ogo st24 ?_
      show OwnEnds _ _ _ _ _ _ _ (T24.setTop (mkF m 109 #[.val (.int p0), .val (.long q1), .second, .val (.int p2), .val (.long q3), .second, .val (.int p4), .val (.int p5), .val (.int n), .val (.int vA), .val (.int vB), .val (.int vC), .val (.int (q3.toInt32)), .val (.int (((q3.toUInt64 >>> ((32 : Int32) &&& 0x3f).toInt64.toUInt64).toInt64).toInt32)), .val (.int (p5 &&& (3 : Int32))), .val (.int vB), .unset, .unset] [(.ref b24)]))
      refine ogo (fun t k => XS.dup X24.here hx rfl (hb hby at_109) rfl rfl k) ?_
      show OwnEnds _ _ _ _ _ _ _ (T24.setTop (mkF m 110 #[.val (.int p0), .val (.long q1), .second, .val (.int p2), .val (.long q3), .second, .val (.int p4), .val (.int p5), .val (.int n), .val (.int vA), .val (.int vB), .val (.int vC), .val (.int (q3.toInt32)), .val (.int (((q3.toUInt64 >>> ((32 : Int32) &&& 0x3f).toInt64.toUInt64).toInt64).toInt32)), .val (.int (p5 &&& (3 : Int32))), .val (.int vB), .unset, .unset] [(.ref b24), (.ref b24)]))
      refine ogo (fun t k => XS.iload X24.here hx rfl (hb hby at_110) rfl k) ?_
      show OwnEnds _ _ _ _ _ _ _ (T24.setTop (mkF m 112 #[.val (.int p0), .val (.long q1), .second, .val (.int p2), .val (.long q3), .second, .val (.int p4), .val (.int p5), .val (.int n), .val (.int vA), .val (.int vB), .val (.int vC), .val (.int (q3.toInt32)), .val (.int (((q3.toUInt64 >>> ((32 : Int32) &&& 0x3f).toInt64.toUInt64).toInt64).toInt32)), .val (.int (p5 &&& (3 : Int32))), .val (.int vB), .unset, .unset] [(.int n), (.ref b24), (.ref b24)]))
      obtain ⟨v30, _, ⟨T30, L30, k30, n30⟩, -, X30, ⟨Lc30, hQ30, l30, y30, z30⟩, st30⟩ := X24.specialBack hx (y := (⟨"com/example/dispatchwave/dispatchwave/model/VertexLabels", "<init>", "(I)V"⟩ : MethodName)) rfl hown (mvT hZ (hw _ (List.mem_of_getElem? (i := 8) rfl))) (mvT hZ (hw _ (List.mem_of_getElem? (i := 9) rfl))) (mvT hZ (hw _ (List.mem_of_getElem? (i := 10) rfl))) (by decide) (backOf (W := 1) (rm1 l Z a0 hw [] b24 n h24 n0 Z25 OLD25 A24 f26 f27 f28 f29 q_b24 hn) hZ (hw _ (List.mem_of_getElem? (i := 10) rfl)) (hw _ (List.mem_of_getElem? (i := 7) rfl)) (by decide) (by decide)) (g := (mkF m 112 #[.val (.int p0), .val (.long q1), .second, .val (.int p2), .val (.long q3), .second, .val (.int p4), .val (.int p5), .val (.int n), .val (.int vA), .val (.int vB), .val (.int vC), .val (.int (q3.toInt32)), .val (.int (((q3.toUInt64 >>> ((32 : Int32) &&& 0x3f).toInt64.toUInt64).toInt64).toInt32)), .val (.int (p5 &&& (3 : Int32))), .val (.int vB), .unset, .unset] [(.int n), (.ref b24), (.ref b24)])) rfl (by rw [hml]; rfl) (Steps.refl _) (a := b24) (argsL := [(.int n)]) (rest := [(.ref b24)]) (lenOf pd__I_V rfl) rfl (by show 2 * 0 + _ ≤ _; exact Nat.le_of_eq rfl) (hb hby at_112) (fun _ _ => ⟨rfl, e24, (by decide : 1 + 1 ≤ _), (by decide : 4 + 65 ≤ _)⟩)
      dsimp only [Pt.U, Pt.locs, Pt.cells, Pt.slots] at X30 l30 y30 z30 st30 hQ30
      subst l30 y30 z30
      obtain ⟨rfl, N30q, OLD30, Z30, hL30⟩ := hQ30
      have N30 := Fr.app N3 N30q
      have E30a := hL30.1.2.1
      refine ogo (fun t k => st30.trans k) ?_
      show OwnEnds _ _ _ _ _ _ _ (T30.setTop (mkF m 115 #[.val (.int p0), .val (.long q1), .second, .val (.int p2), .val (.long q3), .second, .val (.int p4), .val (.int p5), .val (.int n), .val (.int vA), .val (.int vB), .val (.int vC), .val (.int (q3.toInt32)), .val (.int (((q3.toUInt64 >>> ((32 : Int32) &&& 0x3f).toInt64.toUInt64).toInt64).toInt32)), .val (.int (p5 &&& (3 : Int32))), .val (.int vB), .unset, .unset] [(.ref b24)]))
      refine ogo (fun t k => XS.astore X30.here hx rfl (hb hby at_115) rfl rfl (l' := #[.val (.int p0), .val (.long q1), .second, .val (.int p2), .val (.long q3), .second, .val (.int p4), .val (.int p5), .val (.int n), .val (.int vA), .val (.int vB), .val (.int vC), .val (.int (q3.toInt32)), .val (.int (((q3.toUInt64 >>> ((32 : Int32) &&& 0x3f).toInt64.toUInt64).toInt64).toInt32)), .val (.int (p5 &&& (3 : Int32))), .val (.int vB), .val (.ref b24), .unset]) rfl k) ?_
      show OwnEnds _ _ _ _ _ _ _ (T30.setTop (mkF m 117 #[.val (.int p0), .val (.long q1), .second, .val (.int p2), .val (.long q3), .second, .val (.int p4), .val (.int p5), .val (.int n), .val (.int vA), .val (.int vB), .val (.int vC), .val (.int (q3.toInt32)), .val (.int (((q3.toUInt64 >>> ((32 : Int32) &&& 0x3f).toInt64.toUInt64).toInt64).toInt32)), .val (.int (p5 &&& (3 : Int32))), .val (.int vB), .val (.ref b24), .unset] []))
      refine ogo (fun t k => XS.aload X30.here hx rfl (hb hby at_117) rfl rfl k) ?_
      show OwnEnds _ _ _ _ _ _ _ (T30.setTop (mkF m 119 #[.val (.int p0), .val (.long q1), .second, .val (.int p2), .val (.long q3), .second, .val (.int p4), .val (.int p5), .val (.int n), .val (.int vA), .val (.int vB), .val (.int vC), .val (.int (q3.toInt32)), .val (.int (((q3.toUInt64 >>> ((32 : Int32) &&& 0x3f).toInt64.toUInt64).toInt64).toInt32)), .val (.int (p5 &&& (3 : Int32))), .val (.int vB), .val (.ref b24), .unset] [(.ref b24)]))
      refine ogo (fun t k => XS.iload X30.here hx rfl (hb hby at_119) rfl k) ?_
      show OwnEnds _ _ _ _ _ _ _ (T30.setTop (mkF m 121 #[.val (.int p0), .val (.long q1), .second, .val (.int p2), .val (.long q3), .second, .val (.int p4), .val (.int p5), .val (.int n), .val (.int vA), .val (.int vB), .val (.int vC), .val (.int (q3.toInt32)), .val (.int (((q3.toUInt64 >>> ((32 : Int32) &&& 0x3f).toInt64.toUInt64).toInt64).toInt32)), .val (.int (p5 &&& (3 : Int32))), .val (.int vB), .val (.ref b24), .unset] [(.int vB), (.ref b24)]))
      obtain ⟨cq31, kq31, q31a, q31b, q31c⟩ := isOf hZ rfl E30a
      obtain ⟨v31, _, ⟨T31, L31, k31, n31⟩, -, X31, ⟨Lc31, hQ31, l31, y31, z31⟩, st31⟩ := X30.virtualBack hx (y := (⟨"com/example/dispatchwave/dispatchwave/model/VertexLabels", "get", "(I)I"⟩ : MethodName)) (z := (⟨"com/example/dispatchwave/dispatchwave/model/VertexLabels", "get", "(I)I"⟩ : MethodName)) hown (mvT hZ (hw _ (List.mem_of_getElem? (i := 20) rfl))) (mvT hZ (hw _ (List.mem_of_getElem? (i := 21) rfl))) (notFace_of_selects (args := #[]) (mvT hZ (hw _ (List.mem_of_getElem? (i := 23) rfl)))) (mvT hZ (hw _ (List.mem_of_getElem? (i := 23) rfl))) (mvT hZ (hw _ (List.mem_of_getElem? (i := 22) rfl))) (by decide) (backOf (W := 0) (rm2 l Z a0 hw [] b24 vB n (fun _ => 0) _ T30.heap n0 Z30 hL30 hn ivB) hZ (hw _ (List.mem_of_getElem? (i := 24) rfl)) (hw _ (List.mem_of_getElem? (i := 7) rfl)) (by decide) (by decide)) q31a q31c (g := (mkF m 121 #[.val (.int p0), .val (.long q1), .second, .val (.int p2), .val (.long q3), .second, .val (.int p4), .val (.int p5), .val (.int n), .val (.int vA), .val (.int vB), .val (.int vC), .val (.int (q3.toInt32)), .val (.int (((q3.toUInt64 >>> ((32 : Int32) &&& 0x3f).toInt64.toUInt64).toInt64).toInt32)), .val (.int (p5 &&& (3 : Int32))), .val (.int vB), .val (.ref b24), .unset] [(.int vB), (.ref b24)])) rfl (by rw [hml]; rfl) (Steps.refl _) (argsL := [(.int vB)]) (rest := []) (lenOf pd__I_I rfl) rfl (by show 2 * 0 + _ ≤ _; exact Nat.le_of_eq rfl) (hb hby at_121) (fun _ _ => ⟨rfl, rfl, (by decide : 2 + 0 ≤ _), (by decide : 69 + 0 ≤ _)⟩)
      dsimp only [Pt.U, Pt.locs, Pt.cells, Pt.slots] at X31 l31 y31 z31 st31 hQ31
      subst l31 y31 z31
      obtain ⟨hv31, N31q, e31⟩ := hQ31
      obtain rfl : v31 = some (.int (0 : Int32)) := hv31.trans (by rfl)
      have N31 := Fr.app N30 N31q
      refine ogo (fun t k => st31.trans k) ?_
      show OwnEnds _ _ _ _ _ _ _ (T31.setTop (mkF m 124 #[.val (.int p0), .val (.long q1), .second, .val (.int p2), .val (.long q3), .second, .val (.int p4), .val (.int p5), .val (.int n), .val (.int vA), .val (.int vB), .val (.int vC), .val (.int (q3.toInt32)), .val (.int (((q3.toUInt64 >>> ((32 : Int32) &&& 0x3f).toInt64.toUInt64).toInt64).toInt32)), .val (.int (p5 &&& (3 : Int32))), .val (.int vB), .val (.ref b24), .unset] [(.int (0 : Int32))]))
      refine ogo (fun t k => XS.ifNo X31.here hx rfl (hb hby at_124) rfl ((if0 _ _).trans (teq (by decide : (0 : Int32) = (0 : Int32))).2) k) ?_
      show OwnEnds _ _ _ _ _ _ _ (T31.setTop (mkF m 127 #[.val (.int p0), .val (.long q1), .second, .val (.int p2), .val (.long q3), .second, .val (.int p4), .val (.int p5), .val (.int n), .val (.int vA), .val (.int vB), .val (.int vC), .val (.int (q3.toInt32)), .val (.int (((q3.toUInt64 >>> ((32 : Int32) &&& 0x3f).toInt64.toUInt64).toInt64).toInt32)), .val (.int (p5 &&& (3 : Int32))), .val (.int vB), .val (.ref b24), .unset] []))
      refine ogo (fun t k => XS.iconst X31.here hx rfl (hb hby at_127) k) ?_
      show OwnEnds _ _ _ _ _ _ _ (T31.setTop (mkF m 128 #[.val (.int p0), .val (.long q1), .second, .val (.int p2), .val (.long q3), .second, .val (.int p4), .val (.int p5), .val (.int n), .val (.int vA), .val (.int vB), .val (.int vC), .val (.int (q3.toInt32)), .val (.int (((q3.toUInt64 >>> ((32 : Int32) &&& 0x3f).toInt64.toUInt64).toInt64).toInt32)), .val (.int (p5 &&& (3 : Int32))), .val (.int vB), .val (.ref b24), .unset] [(.int (1 : Int32))]))
      refine ogo (fun t k => XS.goto X31.here hx rfl (pc0 := 128) (pc' := 132) rfl (hb hby at_128) (by decide) (by decide) k) ?_
      show OwnEnds _ _ _ _ _ _ _ (T31.setTop (mkF m 132 #[.val (.int p0), .val (.long q1), .second, .val (.int p2), .val (.long q3), .second, .val (.int p4), .val (.int p5), .val (.int n), .val (.int vA), .val (.int vB), .val (.int vC), .val (.int (q3.toInt32)), .val (.int (((q3.toUInt64 >>> ((32 : Int32) &&& 0x3f).toInt64.toUInt64).toInt64).toInt32)), .val (.int (p5 &&& (3 : Int32))), .val (.int vB), .val (.ref b24), .unset] [(.int (1 : Int32))]))
      refine ogo (fun t k => XS.istore X31.here hx rfl (hb hby at_132) rfl (l' := #[.val (.int p0), .val (.long q1), .second, .val (.int p2), .val (.long q3), .second, .val (.int p4), .val (.int p5), .val (.int n), .val (.int vA), .val (.int vB), .val (.int vC), .val (.int (q3.toInt32)), .val (.int (((q3.toUInt64 >>> ((32 : Int32) &&& 0x3f).toInt64.toUInt64).toInt64).toInt32)), .val (.int (p5 &&& (3 : Int32))), .val (.int vB), .val (.ref b24), .val (.int (1 : Int32))]) rfl k) ?_
      show OwnEnds _ _ _ _ _ _ _ (T31.setTop (mkF m 134 #[.val (.int p0), .val (.long q1), .second, .val (.int p2), .val (.long q3), .second, .val (.int p4), .val (.int p5), .val (.int n), .val (.int vA), .val (.int vB), .val (.int vC), .val (.int (q3.toInt32)), .val (.int (((q3.toUInt64 >>> ((32 : Int32) &&& 0x3f).toInt64.toUInt64).toInt64).toInt32)), .val (.int (p5 &&& (3 : Int32))), .val (.int vB), .val (.ref b24), .val (.int (1 : Int32))] []))
      refine ogo (fun t k => XS.aload X31.here hx rfl (hb hby at_134) rfl rfl k) ?_
      show OwnEnds _ _ _ _ _ _ _ (T31.setTop (mkF m 136 #[.val (.int p0), .val (.long q1), .second, .val (.int p2), .val (.long q3), .second, .val (.int p4), .val (.int p5), .val (.int n), .val (.int vA), .val (.int vB), .val (.int vC), .val (.int (q3.toInt32)), .val (.int (((q3.toUInt64 >>> ((32 : Int32) &&& 0x3f).toInt64.toUInt64).toInt64).toInt32)), .val (.int (p5 &&& (3 : Int32))), .val (.int vB), .val (.ref b24), .val (.int (1 : Int32))] [(.ref b24)]))
      refine ogo (fun t k => XS.iload X31.here hx rfl (hb hby at_136) rfl k) ?_
      show OwnEnds _ _ _ _ _ _ _ (T31.setTop (mkF m 138 #[.val (.int p0), .val (.long q1), .second, .val (.int p2), .val (.long q3), .second, .val (.int p4), .val (.int p5), .val (.int n), .val (.int vA), .val (.int vB), .val (.int vC), .val (.int (q3.toInt32)), .val (.int (((q3.toUInt64 >>> ((32 : Int32) &&& 0x3f).toInt64.toUInt64).toInt64).toInt32)), .val (.int (p5 &&& (3 : Int32))), .val (.int vB), .val (.ref b24), .val (.int (1 : Int32))] [(.int vA), (.ref b24)]))
      refine ogo (fun t k => XS.iload X31.here hx rfl (hb hby at_138) rfl k) ?_
      show OwnEnds _ _ _ _ _ _ _ (T31.setTop (mkF m 140 #[.val (.int p0), .val (.long q1), .second, .val (.int p2), .val (.long q3), .second, .val (.int p4), .val (.int p5), .val (.int n), .val (.int vA), .val (.int vB), .val (.int vC), .val (.int (q3.toInt32)), .val (.int (((q3.toUInt64 >>> ((32 : Int32) &&& 0x3f).toInt64.toUInt64).toInt64).toInt32)), .val (.int (p5 &&& (3 : Int32))), .val (.int vB), .val (.ref b24), .val (.int (1 : Int32))] [(.int (q3.toInt32)), (.int vA), (.ref b24)]))
      obtain ⟨cq32, kq32, q32a, q32b, q32c⟩ := isOf hZ e31 E30a
      obtain ⟨v32, _, ⟨T32, L32, k32, n32⟩, -, X32, ⟨Lc32, hQ32, l32, y32, z32⟩, st32⟩ := X31.virtualBack hx (y := (⟨"com/example/dispatchwave/dispatchwave/model/VertexLabels", "put", "(II)V"⟩ : MethodName)) (z := (⟨"com/example/dispatchwave/dispatchwave/model/VertexLabels", "put", "(II)V"⟩ : MethodName)) hown (mvT hZ (hw _ (List.mem_of_getElem? (i := 27) rfl))) (mvT hZ (hw _ (List.mem_of_getElem? (i := 28) rfl))) (notFace_of_selects (args := #[]) (mvT hZ (hw _ (List.mem_of_getElem? (i := 30) rfl)))) (mvT hZ (hw _ (List.mem_of_getElem? (i := 30) rfl))) (mvT hZ (hw _ (List.mem_of_getElem? (i := 29) rfl))) (by decide) (backOf (W := 0) (rm50 l Z a0 hw [] b24 vA (q3.toInt32) n (fun _ => 0) T30.heap n0 Z30 OLD30 hL30 hn ivA) hZ (hw _ (List.mem_of_getElem? (i := 31) rfl)) (hw _ (List.mem_of_getElem? (i := 7) rfl)) (by decide) (by decide)) q32a q32c (g := (mkF m 140 #[.val (.int p0), .val (.long q1), .second, .val (.int p2), .val (.long q3), .second, .val (.int p4), .val (.int p5), .val (.int n), .val (.int vA), .val (.int vB), .val (.int vC), .val (.int (q3.toInt32)), .val (.int (((q3.toUInt64 >>> ((32 : Int32) &&& 0x3f).toInt64.toUInt64).toInt64).toInt32)), .val (.int (p5 &&& (3 : Int32))), .val (.int vB), .val (.ref b24), .val (.int (1 : Int32))] [(.int (q3.toInt32)), (.int vA), (.ref b24)])) rfl (by rw [hml]; rfl) (Steps.refl _) (argsL := [(.int vA), (.int (q3.toInt32))]) (rest := []) (lenOf pd__II_V rfl) rfl (by show 2 * 0 + _ ≤ _; exact Nat.le_of_eq rfl) (hb hby at_140) (fun _ _ => ⟨rfl, e31, (by decide : 2 + 1 ≤ _), (by decide : 69 + 192 ≤ _)⟩)
      dsimp only [Pt.U, Pt.locs, Pt.cells, Pt.slots] at X32 l32 y32 z32 st32 hQ32
      subst l32 y32 z32
      obtain ⟨rfl, N32q, OLD32, Z32, hL32⟩ := hQ32
      have N32 := Fr.app N31 N32q
      have E32a := hL32.1.2.1
      refine ogo (fun t k => st32.trans k) ?_
      show OwnEnds _ _ _ _ _ _ _ (T32.setTop (mkF m 143 #[.val (.int p0), .val (.long q1), .second, .val (.int p2), .val (.long q3), .second, .val (.int p4), .val (.int p5), .val (.int n), .val (.int vA), .val (.int vB), .val (.int vC), .val (.int (q3.toInt32)), .val (.int (((q3.toUInt64 >>> ((32 : Int32) &&& 0x3f).toInt64.toUInt64).toInt64).toInt32)), .val (.int (p5 &&& (3 : Int32))), .val (.int vB), .val (.ref b24), .val (.int (1 : Int32))] []))
      refine ogo (fun t k => XS.aload X32.here hx rfl (hb hby at_143) rfl rfl k) ?_
      show OwnEnds _ _ _ _ _ _ _ (T32.setTop (mkF m 145 #[.val (.int p0), .val (.long q1), .second, .val (.int p2), .val (.long q3), .second, .val (.int p4), .val (.int p5), .val (.int n), .val (.int vA), .val (.int vB), .val (.int vC), .val (.int (q3.toInt32)), .val (.int (((q3.toUInt64 >>> ((32 : Int32) &&& 0x3f).toInt64.toUInt64).toInt64).toInt32)), .val (.int (p5 &&& (3 : Int32))), .val (.int vB), .val (.ref b24), .val (.int (1 : Int32))] [(.ref b24)]))
      refine ogo (fun t k => XS.iload X32.here hx rfl (hb hby at_145) rfl k) ?_
      show OwnEnds _ _ _ _ _ _ _ (T32.setTop (mkF m 147 #[.val (.int p0), .val (.long q1), .second, .val (.int p2), .val (.long q3), .second, .val (.int p4), .val (.int p5), .val (.int n), .val (.int vA), .val (.int vB), .val (.int vC), .val (.int (q3.toInt32)), .val (.int (((q3.toUInt64 >>> ((32 : Int32) &&& 0x3f).toInt64.toUInt64).toInt64).toInt32)), .val (.int (p5 &&& (3 : Int32))), .val (.int vB), .val (.ref b24), .val (.int (1 : Int32))] [(.int vB), (.ref b24)]))
      refine ogo (fun t k => XS.iload X32.here hx rfl (hb hby at_147) rfl k) ?_
      show OwnEnds _ _ _ _ _ _ _ (T32.setTop (mkF m 149 #[.val (.int p0), .val (.long q1), .second, .val (.int p2), .val (.long q3), .second, .val (.int p4), .val (.int p5), .val (.int n), .val (.int vA), .val (.int vB), .val (.int vC), .val (.int (q3.toInt32)), .val (.int (((q3.toUInt64 >>> ((32 : Int32) &&& 0x3f).toInt64.toUInt64).toInt64).toInt32)), .val (.int (p5 &&& (3 : Int32))), .val (.int vB), .val (.ref b24), .val (.int (1 : Int32))] [(.int (((q3.toUInt64 >>> ((32 : Int32) &&& 0x3f).toInt64.toUInt64).toInt64).toInt32)), (.int vB), (.ref b24)]))
      obtain ⟨cq33, kq33, q33a, q33b, q33c⟩ := isOf hZ rfl E32a
      obtain ⟨v33, _, ⟨T33, L33, k33, n33⟩, -, X33, ⟨Lc33, hQ33, l33, y33, z33⟩, st33⟩ := X32.virtualBack hx (y := (⟨"com/example/dispatchwave/dispatchwave/model/VertexLabels", "put", "(II)V"⟩ : MethodName)) (z := (⟨"com/example/dispatchwave/dispatchwave/model/VertexLabels", "put", "(II)V"⟩ : MethodName)) hown (mvT hZ (hw _ (List.mem_of_getElem? (i := 27) rfl))) (mvT hZ (hw _ (List.mem_of_getElem? (i := 28) rfl))) (notFace_of_selects (args := #[]) (mvT hZ (hw _ (List.mem_of_getElem? (i := 30) rfl)))) (mvT hZ (hw _ (List.mem_of_getElem? (i := 30) rfl))) (mvT hZ (hw _ (List.mem_of_getElem? (i := 29) rfl))) (by decide) (backOf (W := 0) (rm51 l Z a0 hw [] b24 vB (((q3.toUInt64 >>> ((32 : Int32) &&& 0x3f).toInt64.toUInt64).toInt64).toInt32) n (fupd (fun _ => 0) vA.toInt.toNat (q3.toInt32)) T32.heap n0 Z32 OLD32 hL32 hn ivB) hZ (hw _ (List.mem_of_getElem? (i := 31) rfl)) (hw _ (List.mem_of_getElem? (i := 7) rfl)) (by decide) (by decide)) q33a q33c (g := (mkF m 149 #[.val (.int p0), .val (.long q1), .second, .val (.int p2), .val (.long q3), .second, .val (.int p4), .val (.int p5), .val (.int n), .val (.int vA), .val (.int vB), .val (.int vC), .val (.int (q3.toInt32)), .val (.int (((q3.toUInt64 >>> ((32 : Int32) &&& 0x3f).toInt64.toUInt64).toInt64).toInt32)), .val (.int (p5 &&& (3 : Int32))), .val (.int vB), .val (.ref b24), .val (.int (1 : Int32))] [(.int (((q3.toUInt64 >>> ((32 : Int32) &&& 0x3f).toInt64.toUInt64).toInt64).toInt32)), (.int vB), (.ref b24)])) rfl (by rw [hml]; rfl) (Steps.refl _) (argsL := [(.int vB), (.int (((q3.toUInt64 >>> ((32 : Int32) &&& 0x3f).toInt64.toUInt64).toInt64).toInt32))]) (rest := []) (lenOf pd__II_V rfl) rfl (by show 2 * 0 + _ ≤ _; exact Nat.le_of_eq rfl) (hb hby at_149) (fun _ _ => ⟨rfl, rfl, (by decide : 3 + 1 ≤ _), (by decide : 261 + 448 ≤ _)⟩)
      dsimp only [Pt.U, Pt.locs, Pt.cells, Pt.slots] at X33 l33 y33 z33 st33 hQ33
      subst l33 y33 z33
      obtain ⟨rfl, N33q, OLD33, Z33, hL33⟩ := hQ33
      have N33 := Fr.app N32 N33q
      have E33a := hL33.1.2.1
      refine ogo (fun t k => st33.trans k) ?_
      show OwnEnds _ _ _ _ _ _ _ (T33.setTop (mkF m 152 #[.val (.int p0), .val (.long q1), .second, .val (.int p2), .val (.long q3), .second, .val (.int p4), .val (.int p5), .val (.int n), .val (.int vA), .val (.int vB), .val (.int vC), .val (.int (q3.toInt32)), .val (.int (((q3.toUInt64 >>> ((32 : Int32) &&& 0x3f).toInt64.toUInt64).toInt64).toInt32)), .val (.int (p5 &&& (3 : Int32))), .val (.int vB), .val (.ref b24), .val (.int (1 : Int32))] []))
      refine ogo (fun t k => XS.aload X33.here hx rfl (hb hby at_152) rfl rfl k) ?_
      show OwnEnds _ _ _ _ _ _ _ (T33.setTop (mkF m 154 #[.val (.int p0), .val (.long q1), .second, .val (.int p2), .val (.long q3), .second, .val (.int p4), .val (.int p5), .val (.int n), .val (.int vA), .val (.int vB), .val (.int vC), .val (.int (q3.toInt32)), .val (.int (((q3.toUInt64 >>> ((32 : Int32) &&& 0x3f).toInt64.toUInt64).toInt64).toInt32)), .val (.int (p5 &&& (3 : Int32))), .val (.int vB), .val (.ref b24), .val (.int (1 : Int32))] [(.ref b24)]))
      refine ogo (fun t k => XS.iload X33.here hx rfl (hb hby at_154) rfl k) ?_
      show OwnEnds _ _ _ _ _ _ _ (T33.setTop (mkF m 156 #[.val (.int p0), .val (.long q1), .second, .val (.int p2), .val (.long q3), .second, .val (.int p4), .val (.int p5), .val (.int n), .val (.int vA), .val (.int vB), .val (.int vC), .val (.int (q3.toInt32)), .val (.int (((q3.toUInt64 >>> ((32 : Int32) &&& 0x3f).toInt64.toUInt64).toInt64).toInt32)), .val (.int (p5 &&& (3 : Int32))), .val (.int vB), .val (.ref b24), .val (.int (1 : Int32))] [(.int vC), (.ref b24)]))
      refine ogo (fun t k => XS.iload X33.here hx rfl (hb hby at_156) rfl k) ?_
      show OwnEnds _ _ _ _ _ _ _ (T33.setTop (mkF m 158 #[.val (.int p0), .val (.long q1), .second, .val (.int p2), .val (.long q3), .second, .val (.int p4), .val (.int p5), .val (.int n), .val (.int vA), .val (.int vB), .val (.int vC), .val (.int (q3.toInt32)), .val (.int (((q3.toUInt64 >>> ((32 : Int32) &&& 0x3f).toInt64.toUInt64).toInt64).toInt32)), .val (.int (p5 &&& (3 : Int32))), .val (.int vB), .val (.ref b24), .val (.int (1 : Int32))] [(.int p4), (.int vC), (.ref b24)]))
      obtain ⟨cq34, kq34, q34a, q34b, q34c⟩ := isOf hZ rfl E33a
      obtain ⟨v34, _, ⟨T34, L34, k34, n34⟩, -, X34, ⟨Lc34, hQ34, l34, y34, z34⟩, st34⟩ := X33.virtualBack hx (y := (⟨"com/example/dispatchwave/dispatchwave/model/VertexLabels", "put", "(II)V"⟩ : MethodName)) (z := (⟨"com/example/dispatchwave/dispatchwave/model/VertexLabels", "put", "(II)V"⟩ : MethodName)) hown (mvT hZ (hw _ (List.mem_of_getElem? (i := 27) rfl))) (mvT hZ (hw _ (List.mem_of_getElem? (i := 28) rfl))) (notFace_of_selects (args := #[]) (mvT hZ (hw _ (List.mem_of_getElem? (i := 30) rfl)))) (mvT hZ (hw _ (List.mem_of_getElem? (i := 30) rfl))) (mvT hZ (hw _ (List.mem_of_getElem? (i := 29) rfl))) (by decide) (backOf (W := 0) (rm52 l Z a0 hw [] b24 vC p4 n (fupd (fupd (fun _ => 0) vA.toInt.toNat (q3.toInt32)) vB.toInt.toNat (((q3.toUInt64 >>> ((32 : Int32) &&& 0x3f).toInt64.toUInt64).toInt64).toInt32)) T33.heap n0 Z33 OLD33 hL33 hn ivC) hZ (hw _ (List.mem_of_getElem? (i := 31) rfl)) (hw _ (List.mem_of_getElem? (i := 7) rfl)) (by decide) (by decide)) q34a q34c (g := (mkF m 158 #[.val (.int p0), .val (.long q1), .second, .val (.int p2), .val (.long q3), .second, .val (.int p4), .val (.int p5), .val (.int n), .val (.int vA), .val (.int vB), .val (.int vC), .val (.int (q3.toInt32)), .val (.int (((q3.toUInt64 >>> ((32 : Int32) &&& 0x3f).toInt64.toUInt64).toInt64).toInt32)), .val (.int (p5 &&& (3 : Int32))), .val (.int vB), .val (.ref b24), .val (.int (1 : Int32))] [(.int p4), (.int vC), (.ref b24)])) rfl (by rw [hml]; rfl) (Steps.refl _) (argsL := [(.int vC), (.int p4)]) (rest := []) (lenOf pd__II_V rfl) rfl (by show 2 * 0 + _ ≤ _; exact Nat.le_of_eq rfl) (hb hby at_158) (fun _ _ => ⟨rfl, rfl, (by decide : 4 + 1 ≤ _), (by decide : 709 + 704 ≤ _)⟩)
      dsimp only [Pt.U, Pt.locs, Pt.cells, Pt.slots] at X34 l34 y34 z34 st34 hQ34
      subst l34 y34 z34
      obtain ⟨rfl, N34q, OLD34, Z34, hL34⟩ := hQ34
      have N34 := Fr.app N33 N34q
      have E34a := hL34.1.2.1
      refine ogo (fun t k => st34.trans k) ?_
      show OwnEnds _ _ _ _ _ _ _ (T34.setTop (mkF m 161 #[.val (.int p0), .val (.long q1), .second, .val (.int p2), .val (.long q3), .second, .val (.int p4), .val (.int p5), .val (.int n), .val (.int vA), .val (.int vB), .val (.int vC), .val (.int (q3.toInt32)), .val (.int (((q3.toUInt64 >>> ((32 : Int32) &&& 0x3f).toInt64.toUInt64).toInt64).toInt32)), .val (.int (p5 &&& (3 : Int32))), .val (.int vB), .val (.ref b24), .val (.int (1 : Int32))] []))
      refine ogo (fun t k => XS.iload X34.here hx rfl (hb hby at_161) rfl k) ?_
      show OwnEnds _ _ _ _ _ _ _ (T34.setTop (mkF m 163 #[.val (.int p0), .val (.long q1), .second, .val (.int p2), .val (.long q3), .second, .val (.int p4), .val (.int p5), .val (.int n), .val (.int vA), .val (.int vB), .val (.int vC), .val (.int (q3.toInt32)), .val (.int (((q3.toUInt64 >>> ((32 : Int32) &&& 0x3f).toInt64.toUInt64).toInt64).toInt32)), .val (.int (p5 &&& (3 : Int32))), .val (.int vB), .val (.ref b24), .val (.int (1 : Int32))] [(.int (1 : Int32))]))
      refine ogo (fun t k => XS.ifNo X34.here hx rfl (hb hby at_163) rfl ((if0 _ _).trans (feq (by decide : ¬ ((1 : Int32) = (0 : Int32)))).1) k) ?_
      show OwnEnds _ _ _ _ _ _ _ (T34.setTop (mkF m 166 #[.val (.int p0), .val (.long q1), .second, .val (.int p2), .val (.long q3), .second, .val (.int p4), .val (.int p5), .val (.int n), .val (.int vA), .val (.int vB), .val (.int vC), .val (.int (q3.toInt32)), .val (.int (((q3.toUInt64 >>> ((32 : Int32) &&& 0x3f).toInt64.toUInt64).toInt64).toInt32)), .val (.int (p5 &&& (3 : Int32))), .val (.int vB), .val (.ref b24), .val (.int (1 : Int32))] []))
      refine ogo (fun t k => XS.aload X34.here hx rfl (hb hby at_166) rfl rfl k) ?_
      show OwnEnds _ _ _ _ _ _ _ (T34.setTop (mkF m 168 #[.val (.int p0), .val (.long q1), .second, .val (.int p2), .val (.long q3), .second, .val (.int p4), .val (.int p5), .val (.int n), .val (.int vA), .val (.int vB), .val (.int vC), .val (.int (q3.toInt32)), .val (.int (((q3.toUInt64 >>> ((32 : Int32) &&& 0x3f).toInt64.toUInt64).toInt64).toInt32)), .val (.int (p5 &&& (3 : Int32))), .val (.int vB), .val (.ref b24), .val (.int (1 : Int32))] [(.ref b24)]))
      refine ogo (fun t k => XS.iload X34.here hx rfl (hb hby at_168) rfl k) ?_
      show OwnEnds _ _ _ _ _ _ _ (T34.setTop (mkF m 170 #[.val (.int p0), .val (.long q1), .second, .val (.int p2), .val (.long q3), .second, .val (.int p4), .val (.int p5), .val (.int n), .val (.int vA), .val (.int vB), .val (.int vC), .val (.int (q3.toInt32)), .val (.int (((q3.toUInt64 >>> ((32 : Int32) &&& 0x3f).toInt64.toUInt64).toInt64).toInt32)), .val (.int (p5 &&& (3 : Int32))), .val (.int vB), .val (.ref b24), .val (.int (1 : Int32))] [(.int vA), (.ref b24)]))
      obtain ⟨cq35, kq35, q35a, q35b, q35c⟩ := isOf hZ rfl E34a
      obtain ⟨v35, _, ⟨T35, L35, k35, n35⟩, -, X35, ⟨Lc35, hQ35, l35, y35, z35⟩, st35⟩ := X34.virtualBack hx (y := (⟨"com/example/dispatchwave/dispatchwave/model/VertexLabels", "get", "(I)I"⟩ : MethodName)) (z := (⟨"com/example/dispatchwave/dispatchwave/model/VertexLabels", "get", "(I)I"⟩ : MethodName)) hown (mvT hZ (hw _ (List.mem_of_getElem? (i := 20) rfl))) (mvT hZ (hw _ (List.mem_of_getElem? (i := 21) rfl))) (notFace_of_selects (args := #[]) (mvT hZ (hw _ (List.mem_of_getElem? (i := 23) rfl)))) (mvT hZ (hw _ (List.mem_of_getElem? (i := 23) rfl))) (mvT hZ (hw _ (List.mem_of_getElem? (i := 22) rfl))) (by decide) (backOf (W := 0) (rm2 l Z a0 hw [] b24 vA n (fupd (fupd (fupd (fun _ => 0) vA.toInt.toNat (q3.toInt32)) vB.toInt.toNat (((q3.toUInt64 >>> ((32 : Int32) &&& 0x3f).toInt64.toUInt64).toInt64).toInt32)) vC.toInt.toNat p4) _ T34.heap n0 Z34 hL34 hn ivA) hZ (hw _ (List.mem_of_getElem? (i := 24) rfl)) (hw _ (List.mem_of_getElem? (i := 7) rfl)) (by decide) (by decide)) q35a q35c (g := (mkF m 170 #[.val (.int p0), .val (.long q1), .second, .val (.int p2), .val (.long q3), .second, .val (.int p4), .val (.int p5), .val (.int n), .val (.int vA), .val (.int vB), .val (.int vC), .val (.int (q3.toInt32)), .val (.int (((q3.toUInt64 >>> ((32 : Int32) &&& 0x3f).toInt64.toUInt64).toInt64).toInt32)), .val (.int (p5 &&& (3 : Int32))), .val (.int vB), .val (.ref b24), .val (.int (1 : Int32))] [(.int vA), (.ref b24)])) rfl (by rw [hml]; rfl) (Steps.refl _) (argsL := [(.int vA)]) (rest := []) (lenOf pd__I_I rfl) rfl (by show 2 * 0 + _ ≤ _; exact Nat.le_of_eq rfl) (hb hby at_170) (fun _ _ => ⟨rfl, rfl, (by decide : 5 + 0 ≤ _), (by decide : 1413 + 0 ≤ _)⟩)
      dsimp only [Pt.U, Pt.locs, Pt.cells, Pt.slots] at X35 l35 y35 z35 st35 hQ35
      subst l35 y35 z35
      obtain ⟨hv35, N35q, e35⟩ := hQ35
      obtain rfl : v35 = some (.int (own_exp vA vA (q3.toInt32) vB (((q3.toUInt64 >>> ((32 : Int32) &&& 0x3f).toInt64.toUInt64).toInt64).toInt32) vC p4)) := hv35.trans (by rw [own_fin ivA ivA ivB ivC])
      have N35 := Fr.app N34 N35q
      refine ogo (fun t k => st35.trans k) ?_
      show OwnEnds _ _ _ _ _ _ _ (T35.setTop (mkF m 173 #[.val (.int p0), .val (.long q1), .second, .val (.int p2), .val (.long q3), .second, .val (.int p4), .val (.int p5), .val (.int n), .val (.int vA), .val (.int vB), .val (.int vC), .val (.int (q3.toInt32)), .val (.int (((q3.toUInt64 >>> ((32 : Int32) &&& 0x3f).toInt64.toUInt64).toInt64).toInt32)), .val (.int (p5 &&& (3 : Int32))), .val (.int vB), .val (.ref b24), .val (.int (1 : Int32))] [(.int (own_exp vA vA (q3.toInt32) vB (((q3.toUInt64 >>> ((32 : Int32) &&& 0x3f).toInt64.toUInt64).toInt64).toInt32) vC p4))]))
      refine ogo (fun t k => XS.iload X35.here hx rfl (hb hby at_173) rfl k) ?_
      show OwnEnds _ _ _ _ _ _ _ (T35.setTop (mkF m 175 #[.val (.int p0), .val (.long q1), .second, .val (.int p2), .val (.long q3), .second, .val (.int p4), .val (.int p5), .val (.int n), .val (.int vA), .val (.int vB), .val (.int vC), .val (.int (q3.toInt32)), .val (.int (((q3.toUInt64 >>> ((32 : Int32) &&& 0x3f).toInt64.toUInt64).toInt64).toInt32)), .val (.int (p5 &&& (3 : Int32))), .val (.int vB), .val (.ref b24), .val (.int (1 : Int32))] [(.int vA), (.int (own_exp vA vA (q3.toInt32) vB (((q3.toUInt64 >>> ((32 : Int32) &&& 0x3f).toInt64.toUInt64).toInt64).toInt32) vC p4))]))
      refine ogo (fun t k => XS.iload X35.here hx rfl (hb hby at_175) rfl k) ?_
      show OwnEnds _ _ _ _ _ _ _ (T35.setTop (mkF m 177 #[.val (.int p0), .val (.long q1), .second, .val (.int p2), .val (.long q3), .second, .val (.int p4), .val (.int p5), .val (.int n), .val (.int vA), .val (.int vB), .val (.int vC), .val (.int (q3.toInt32)), .val (.int (((q3.toUInt64 >>> ((32 : Int32) &&& 0x3f).toInt64.toUInt64).toInt64).toInt32)), .val (.int (p5 &&& (3 : Int32))), .val (.int vB), .val (.ref b24), .val (.int (1 : Int32))] [(.int vA), (.int vA), (.int (own_exp vA vA (q3.toInt32) vB (((q3.toUInt64 >>> ((32 : Int32) &&& 0x3f).toInt64.toUInt64).toInt64).toInt32) vC p4))]))
      refine ogo (fun t k => XS.iload X35.here hx rfl (hb hby at_177) rfl k) ?_
      show OwnEnds _ _ _ _ _ _ _ (T35.setTop (mkF m 179 #[.val (.int p0), .val (.long q1), .second, .val (.int p2), .val (.long q3), .second, .val (.int p4), .val (.int p5), .val (.int n), .val (.int vA), .val (.int vB), .val (.int vC), .val (.int (q3.toInt32)), .val (.int (((q3.toUInt64 >>> ((32 : Int32) &&& 0x3f).toInt64.toUInt64).toInt64).toInt32)), .val (.int (p5 &&& (3 : Int32))), .val (.int vB), .val (.ref b24), .val (.int (1 : Int32))] [(.int (q3.toInt32)), (.int vA), (.int vA), (.int (own_exp vA vA (q3.toInt32) vB (((q3.toUInt64 >>> ((32 : Int32) &&& 0x3f).toInt64.toUInt64).toInt64).toInt32) vC p4))]))
      refine ogo (fun t k => XS.iload X35.here hx rfl (hb hby at_179) rfl k) ?_
      show OwnEnds _ _ _ _ _ _ _ (T35.setTop (mkF m 181 #[.val (.int p0), .val (.long q1), .second, .val (.int p2), .val (.long q3), .second, .val (.int p4), .val (.int p5), .val (.int n), .val (.int vA), .val (.int vB), .val (.int vC), .val (.int (q3.toInt32)), .val (.int (((q3.toUInt64 >>> ((32 : Int32) &&& 0x3f).toInt64.toUInt64).toInt64).toInt32)), .val (.int (p5 &&& (3 : Int32))), .val (.int vB), .val (.ref b24), .val (.int (1 : Int32))] [(.int vB), (.int (q3.toInt32)), (.int vA), (.int vA), (.int (own_exp vA vA (q3.toInt32) vB (((q3.toUInt64 >>> ((32 : Int32) &&& 0x3f).toInt64.toUInt64).toInt64).toInt32) vC p4))]))
      refine ogo (fun t k => XS.iload X35.here hx rfl (hb hby at_181) rfl k) ?_
      show OwnEnds _ _ _ _ _ _ _ (T35.setTop (mkF m 183 #[.val (.int p0), .val (.long q1), .second, .val (.int p2), .val (.long q3), .second, .val (.int p4), .val (.int p5), .val (.int n), .val (.int vA), .val (.int vB), .val (.int vC), .val (.int (q3.toInt32)), .val (.int (((q3.toUInt64 >>> ((32 : Int32) &&& 0x3f).toInt64.toUInt64).toInt64).toInt32)), .val (.int (p5 &&& (3 : Int32))), .val (.int vB), .val (.ref b24), .val (.int (1 : Int32))] [(.int (((q3.toUInt64 >>> ((32 : Int32) &&& 0x3f).toInt64.toUInt64).toInt64).toInt32)), (.int vB), (.int (q3.toInt32)), (.int vA), (.int vA), (.int (own_exp vA vA (q3.toInt32) vB (((q3.toUInt64 >>> ((32 : Int32) &&& 0x3f).toInt64.toUInt64).toInt64).toInt32) vC p4))]))
      refine ogo (fun t k => XS.iload X35.here hx rfl (hb hby at_183) rfl k) ?_
      show OwnEnds _ _ _ _ _ _ _ (T35.setTop (mkF m 185 #[.val (.int p0), .val (.long q1), .second, .val (.int p2), .val (.long q3), .second, .val (.int p4), .val (.int p5), .val (.int n), .val (.int vA), .val (.int vB), .val (.int vC), .val (.int (q3.toInt32)), .val (.int (((q3.toUInt64 >>> ((32 : Int32) &&& 0x3f).toInt64.toUInt64).toInt64).toInt32)), .val (.int (p5 &&& (3 : Int32))), .val (.int vB), .val (.ref b24), .val (.int (1 : Int32))] [(.int vC), (.int (((q3.toUInt64 >>> ((32 : Int32) &&& 0x3f).toInt64.toUInt64).toInt64).toInt32)), (.int vB), (.int (q3.toInt32)), (.int vA), (.int vA), (.int (own_exp vA vA (q3.toInt32) vB (((q3.toUInt64 >>> ((32 : Int32) &&& 0x3f).toInt64.toUInt64).toInt64).toInt32) vC p4))]))
      refine ogo (fun t k => XS.iload X35.here hx rfl (hb hby at_185) rfl k) ?_
      show OwnEnds _ _ _ _ _ _ _ (T35.setTop (mkF m 187 #[.val (.int p0), .val (.long q1), .second, .val (.int p2), .val (.long q3), .second, .val (.int p4), .val (.int p5), .val (.int n), .val (.int vA), .val (.int vB), .val (.int vC), .val (.int (q3.toInt32)), .val (.int (((q3.toUInt64 >>> ((32 : Int32) &&& 0x3f).toInt64.toUInt64).toInt64).toInt32)), .val (.int (p5 &&& (3 : Int32))), .val (.int vB), .val (.ref b24), .val (.int (1 : Int32))] [(.int p4), (.int vC), (.int (((q3.toUInt64 >>> ((32 : Int32) &&& 0x3f).toInt64.toUInt64).toInt64).toInt32)), (.int vB), (.int (q3.toInt32)), (.int vA), (.int vA), (.int (own_exp vA vA (q3.toInt32) vB (((q3.toUInt64 >>> ((32 : Int32) &&& 0x3f).toInt64.toUInt64).toInt64).toInt32) vC p4))]))
      obtain ⟨v36, _, ⟨T36, L36, k36, n36⟩, -, X36, ⟨Lc36, hQ36, l36, y36, z36⟩, st36⟩ := Jvm.LawKit.callS X35 hx (y := (⟨"com/example/dispatchwave/dispatchwave/model/VertexLabelsGetPinLaw", "expected", "(IIIIIII)I"⟩ : MethodName)) hown (mvT hZ (hw _ (List.mem_of_getElem? (i := 40) rfl))) (mvT hZ (hw _ (List.mem_of_getElem? (i := 41) rfl))) (mvT hZ (hw _ (List.mem_of_getElem? (i := 2) rfl))) (mvT hZ (hw _ (List.mem_of_getElem? (i := 42) rfl))) (by decide) (backOf (W := 1) (rm7 l Z a0 hw [] vA vA (q3.toInt32) vB (((q3.toUInt64 >>> ((32 : Int32) &&& 0x3f).toInt64.toUInt64).toInt64).toInt32) vC p4 T34.heap n0 Z34 ) hZ (hw _ (List.mem_of_getElem? (i := 42) rfl)) (hw _ (List.mem_of_getElem? (i := 2) rfl)) (by decide) (by decide)) (g := (mkF m 187 #[.val (.int p0), .val (.long q1), .second, .val (.int p2), .val (.long q3), .second, .val (.int p4), .val (.int p5), .val (.int n), .val (.int vA), .val (.int vB), .val (.int vC), .val (.int (q3.toInt32)), .val (.int (((q3.toUInt64 >>> ((32 : Int32) &&& 0x3f).toInt64.toUInt64).toInt64).toInt32)), .val (.int (p5 &&& (3 : Int32))), .val (.int vB), .val (.ref b24), .val (.int (1 : Int32))] [(.int p4), (.int vC), (.int (((q3.toUInt64 >>> ((32 : Int32) &&& 0x3f).toInt64.toUInt64).toInt64).toInt32)), (.int vB), (.int (q3.toInt32)), (.int vA), (.int vA), (.int (own_exp vA vA (q3.toInt32) vB (((q3.toUInt64 >>> ((32 : Int32) &&& 0x3f).toInt64.toUInt64).toInt64).toInt32) vC p4))])) rfl (by rw [hml]; rfl) (argsL := [(.int vA), (.int vA), (.int (q3.toInt32)), (.int vB), (.int (((q3.toUInt64 >>> ((32 : Int32) &&& 0x3f).toInt64.toUInt64).toInt64).toInt32)), (.int vC), (.int p4)]) (rest := [(.int (own_exp vA vA (q3.toInt32) vB (((q3.toUInt64 >>> ((32 : Int32) &&& 0x3f).toInt64.toUInt64).toInt64).toInt32) vC p4))]) (lenOf pd__IIIIIII_I rfl) rfl (by show 2 * 0 + _ ≤ _; exact Nat.le_of_eq rfl) (hb hby at_187) (fun _ _ => ⟨rfl, e35, (by decide : 5 + 0 ≤ _), (by decide : 1413 + 0 ≤ _)⟩)
      dsimp only [Pt.U, Pt.locs, Pt.cells, Pt.slots] at X36 l36 y36 z36 st36 hQ36
      subst l36 y36 z36
      obtain ⟨rfl, N36q, e36⟩ := hQ36
      have N36 := Fr.app N35 N36q
      refine ogo (fun t k => st36 t k) ?_
      show OwnEnds _ _ _ _ _ _ _ (T36.setTop (mkF m 190 #[.val (.int p0), .val (.long q1), .second, .val (.int p2), .val (.long q3), .second, .val (.int p4), .val (.int p5), .val (.int n), .val (.int vA), .val (.int vB), .val (.int vC), .val (.int (q3.toInt32)), .val (.int (((q3.toUInt64 >>> ((32 : Int32) &&& 0x3f).toInt64.toUInt64).toInt64).toInt32)), .val (.int (p5 &&& (3 : Int32))), .val (.int vB), .val (.ref b24), .val (.int (1 : Int32))] [(.int (own_exp vA vA (q3.toInt32) vB (((q3.toUInt64 >>> ((32 : Int32) &&& 0x3f).toInt64.toUInt64).toInt64).toInt32) vC p4)), (.int (own_exp vA vA (q3.toInt32) vB (((q3.toUInt64 >>> ((32 : Int32) &&& 0x3f).toInt64.toUInt64).toInt64).toInt32) vC p4))]))
      refine ogo (fun t k => XS.icmpNo X36.here hx rfl (hb hby at_190) rfl (teq (rfl : (own_exp vA vA (q3.toInt32) vB (((q3.toUInt64 >>> ((32 : Int32) &&& 0x3f).toInt64.toUInt64).toInt64).toInt32) vC p4) = (own_exp vA vA (q3.toInt32) vB (((q3.toUInt64 >>> ((32 : Int32) &&& 0x3f).toInt64.toUInt64).toInt64).toInt32) vC p4))).2 k) ?_
      show OwnEnds _ _ _ _ _ _ _ (T36.setTop (mkF m 193 #[.val (.int p0), .val (.long q1), .second, .val (.int p2), .val (.long q3), .second, .val (.int p4), .val (.int p5), .val (.int n), .val (.int vA), .val (.int vB), .val (.int vC), .val (.int (q3.toInt32)), .val (.int (((q3.toUInt64 >>> ((32 : Int32) &&& 0x3f).toInt64.toUInt64).toInt64).toInt32)), .val (.int (p5 &&& (3 : Int32))), .val (.int vB), .val (.ref b24), .val (.int (1 : Int32))] []))
      refine ogo (fun t k => XS.iconst X36.here hx rfl (hb hby at_193) k) ?_
      show OwnEnds _ _ _ _ _ _ _ (T36.setTop (mkF m 194 #[.val (.int p0), .val (.long q1), .second, .val (.int p2), .val (.long q3), .second, .val (.int p4), .val (.int p5), .val (.int n), .val (.int vA), .val (.int vB), .val (.int vC), .val (.int (q3.toInt32)), .val (.int (((q3.toUInt64 >>> ((32 : Int32) &&& 0x3f).toInt64.toUInt64).toInt64).toInt32)), .val (.int (p5 &&& (3 : Int32))), .val (.int vB), .val (.ref b24), .val (.int (1 : Int32))] [(.int (1 : Int32))]))
      refine ogo (fun t k => XS.goto X36.here hx rfl (pc0 := 194) (pc' := 198) rfl (hb hby at_194) (by decide) (by decide) k) ?_
      show OwnEnds _ _ _ _ _ _ _ (T36.setTop (mkF m 198 #[.val (.int p0), .val (.long q1), .second, .val (.int p2), .val (.long q3), .second, .val (.int p4), .val (.int p5), .val (.int n), .val (.int vA), .val (.int vB), .val (.int vC), .val (.int (q3.toInt32)), .val (.int (((q3.toUInt64 >>> ((32 : Int32) &&& 0x3f).toInt64.toUInt64).toInt64).toInt32)), .val (.int (p5 &&& (3 : Int32))), .val (.int vB), .val (.ref b24), .val (.int (1 : Int32))] [(.int (1 : Int32))]))
      refine ogo (fun t k => XS.istore X36.here hx rfl (hb hby at_198) rfl (l' := #[.val (.int p0), .val (.long q1), .second, .val (.int p2), .val (.long q3), .second, .val (.int p4), .val (.int p5), .val (.int n), .val (.int vA), .val (.int vB), .val (.int vC), .val (.int (q3.toInt32)), .val (.int (((q3.toUInt64 >>> ((32 : Int32) &&& 0x3f).toInt64.toUInt64).toInt64).toInt32)), .val (.int (p5 &&& (3 : Int32))), .val (.int vB), .val (.ref b24), .val (.int (1 : Int32))]) rfl k) ?_
      show OwnEnds _ _ _ _ _ _ _ (T36.setTop (mkF m 200 #[.val (.int p0), .val (.long q1), .second, .val (.int p2), .val (.long q3), .second, .val (.int p4), .val (.int p5), .val (.int n), .val (.int vA), .val (.int vB), .val (.int vC), .val (.int (q3.toInt32)), .val (.int (((q3.toUInt64 >>> ((32 : Int32) &&& 0x3f).toInt64.toUInt64).toInt64).toInt32)), .val (.int (p5 &&& (3 : Int32))), .val (.int vB), .val (.ref b24), .val (.int (1 : Int32))] []))
      refine ogo (fun t k => XS.iload X36.here hx rfl (hb hby at_200) rfl k) ?_
      show OwnEnds _ _ _ _ _ _ _ (T36.setTop (mkF m 202 #[.val (.int p0), .val (.long q1), .second, .val (.int p2), .val (.long q3), .second, .val (.int p4), .val (.int p5), .val (.int n), .val (.int vA), .val (.int vB), .val (.int vC), .val (.int (q3.toInt32)), .val (.int (((q3.toUInt64 >>> ((32 : Int32) &&& 0x3f).toInt64.toUInt64).toInt64).toInt32)), .val (.int (p5 &&& (3 : Int32))), .val (.int vB), .val (.ref b24), .val (.int (1 : Int32))] [(.int (1 : Int32))]))
      refine ogo (fun t k => XS.ifNo X36.here hx rfl (hb hby at_202) rfl ((if0 _ _).trans (feq (by decide : ¬ ((1 : Int32) = (0 : Int32)))).1) k) ?_
      show OwnEnds _ _ _ _ _ _ _ (T36.setTop (mkF m 205 #[.val (.int p0), .val (.long q1), .second, .val (.int p2), .val (.long q3), .second, .val (.int p4), .val (.int p5), .val (.int n), .val (.int vA), .val (.int vB), .val (.int vC), .val (.int (q3.toInt32)), .val (.int (((q3.toUInt64 >>> ((32 : Int32) &&& 0x3f).toInt64.toUInt64).toInt64).toInt32)), .val (.int (p5 &&& (3 : Int32))), .val (.int vB), .val (.ref b24), .val (.int (1 : Int32))] []))
      refine ogo (fun t k => XS.aload X36.here hx rfl (hb hby at_205) rfl rfl k) ?_
      show OwnEnds _ _ _ _ _ _ _ (T36.setTop (mkF m 207 #[.val (.int p0), .val (.long q1), .second, .val (.int p2), .val (.long q3), .second, .val (.int p4), .val (.int p5), .val (.int n), .val (.int vA), .val (.int vB), .val (.int vC), .val (.int (q3.toInt32)), .val (.int (((q3.toUInt64 >>> ((32 : Int32) &&& 0x3f).toInt64.toUInt64).toInt64).toInt32)), .val (.int (p5 &&& (3 : Int32))), .val (.int vB), .val (.ref b24), .val (.int (1 : Int32))] [(.ref b24)]))
      refine ogo (fun t k => XS.iload X36.here hx rfl (hb hby at_207) rfl k) ?_
      show OwnEnds _ _ _ _ _ _ _ (T36.setTop (mkF m 209 #[.val (.int p0), .val (.long q1), .second, .val (.int p2), .val (.long q3), .second, .val (.int p4), .val (.int p5), .val (.int n), .val (.int vA), .val (.int vB), .val (.int vC), .val (.int (q3.toInt32)), .val (.int (((q3.toUInt64 >>> ((32 : Int32) &&& 0x3f).toInt64.toUInt64).toInt64).toInt32)), .val (.int (p5 &&& (3 : Int32))), .val (.int vB), .val (.ref b24), .val (.int (1 : Int32))] [(.int vB), (.ref b24)]))
      obtain ⟨cq37, kq37, q37a, q37b, q37c⟩ := isOf hZ e36 E34a
      obtain ⟨v37, _, ⟨T37, L37, k37, n37⟩, -, X37, ⟨Lc37, hQ37, l37, y37, z37⟩, st37⟩ := X36.virtualBack hx (y := (⟨"com/example/dispatchwave/dispatchwave/model/VertexLabels", "get", "(I)I"⟩ : MethodName)) (z := (⟨"com/example/dispatchwave/dispatchwave/model/VertexLabels", "get", "(I)I"⟩ : MethodName)) hown (mvT hZ (hw _ (List.mem_of_getElem? (i := 20) rfl))) (mvT hZ (hw _ (List.mem_of_getElem? (i := 21) rfl))) (notFace_of_selects (args := #[]) (mvT hZ (hw _ (List.mem_of_getElem? (i := 23) rfl)))) (mvT hZ (hw _ (List.mem_of_getElem? (i := 23) rfl))) (mvT hZ (hw _ (List.mem_of_getElem? (i := 22) rfl))) (by decide) (backOf (W := 0) (rm2 l Z a0 hw [] b24 vB n (fupd (fupd (fupd (fun _ => 0) vA.toInt.toNat (q3.toInt32)) vB.toInt.toNat (((q3.toUInt64 >>> ((32 : Int32) &&& 0x3f).toInt64.toUInt64).toInt64).toInt32)) vC.toInt.toNat p4) _ T34.heap n0 Z34 hL34 hn ivB) hZ (hw _ (List.mem_of_getElem? (i := 24) rfl)) (hw _ (List.mem_of_getElem? (i := 7) rfl)) (by decide) (by decide)) q37a q37c (g := (mkF m 209 #[.val (.int p0), .val (.long q1), .second, .val (.int p2), .val (.long q3), .second, .val (.int p4), .val (.int p5), .val (.int n), .val (.int vA), .val (.int vB), .val (.int vC), .val (.int (q3.toInt32)), .val (.int (((q3.toUInt64 >>> ((32 : Int32) &&& 0x3f).toInt64.toUInt64).toInt64).toInt32)), .val (.int (p5 &&& (3 : Int32))), .val (.int vB), .val (.ref b24), .val (.int (1 : Int32))] [(.int vB), (.ref b24)])) rfl (by rw [hml]; rfl) (Steps.refl _) (argsL := [(.int vB)]) (rest := []) (lenOf pd__I_I rfl) rfl (by show 2 * 0 + _ ≤ _; exact Nat.le_of_eq rfl) (hb hby at_209) (fun _ _ => ⟨rfl, e36, (by decide : 5 + 0 ≤ _), (by decide : 1413 + 0 ≤ _)⟩)
      dsimp only [Pt.U, Pt.locs, Pt.cells, Pt.slots] at X37 l37 y37 z37 st37 hQ37
      subst l37 y37 z37
      obtain ⟨hv37, N37q, e37⟩ := hQ37
      obtain rfl : v37 = some (.int (own_exp vB vA (q3.toInt32) vB (((q3.toUInt64 >>> ((32 : Int32) &&& 0x3f).toInt64.toUInt64).toInt64).toInt32) vC p4)) := hv37.trans (by rw [own_fin ivB ivA ivB ivC])
      have N37 := Fr.app N36 N37q
      refine ogo (fun t k => st37.trans k) ?_
      show OwnEnds _ _ _ _ _ _ _ (T37.setTop (mkF m 212 #[.val (.int p0), .val (.long q1), .second, .val (.int p2), .val (.long q3), .second, .val (.int p4), .val (.int p5), .val (.int n), .val (.int vA), .val (.int vB), .val (.int vC), .val (.int (q3.toInt32)), .val (.int (((q3.toUInt64 >>> ((32 : Int32) &&& 0x3f).toInt64.toUInt64).toInt64).toInt32)), .val (.int (p5 &&& (3 : Int32))), .val (.int vB), .val (.ref b24), .val (.int (1 : Int32))] [(.int (own_exp vB vA (q3.toInt32) vB (((q3.toUInt64 >>> ((32 : Int32) &&& 0x3f).toInt64.toUInt64).toInt64).toInt32) vC p4))]))
      refine ogo (fun t k => XS.iload X37.here hx rfl (hb hby at_212) rfl k) ?_
      show OwnEnds _ _ _ _ _ _ _ (T37.setTop (mkF m 214 #[.val (.int p0), .val (.long q1), .second, .val (.int p2), .val (.long q3), .second, .val (.int p4), .val (.int p5), .val (.int n), .val (.int vA), .val (.int vB), .val (.int vC), .val (.int (q3.toInt32)), .val (.int (((q3.toUInt64 >>> ((32 : Int32) &&& 0x3f).toInt64.toUInt64).toInt64).toInt32)), .val (.int (p5 &&& (3 : Int32))), .val (.int vB), .val (.ref b24), .val (.int (1 : Int32))] [(.int vB), (.int (own_exp vB vA (q3.toInt32) vB (((q3.toUInt64 >>> ((32 : Int32) &&& 0x3f).toInt64.toUInt64).toInt64).toInt32) vC p4))]))
      refine ogo (fun t k => XS.iload X37.here hx rfl (hb hby at_214) rfl k) ?_
      show OwnEnds _ _ _ _ _ _ _ (T37.setTop (mkF m 216 #[.val (.int p0), .val (.long q1), .second, .val (.int p2), .val (.long q3), .second, .val (.int p4), .val (.int p5), .val (.int n), .val (.int vA), .val (.int vB), .val (.int vC), .val (.int (q3.toInt32)), .val (.int (((q3.toUInt64 >>> ((32 : Int32) &&& 0x3f).toInt64.toUInt64).toInt64).toInt32)), .val (.int (p5 &&& (3 : Int32))), .val (.int vB), .val (.ref b24), .val (.int (1 : Int32))] [(.int vA), (.int vB), (.int (own_exp vB vA (q3.toInt32) vB (((q3.toUInt64 >>> ((32 : Int32) &&& 0x3f).toInt64.toUInt64).toInt64).toInt32) vC p4))]))
      refine ogo (fun t k => XS.iload X37.here hx rfl (hb hby at_216) rfl k) ?_
      show OwnEnds _ _ _ _ _ _ _ (T37.setTop (mkF m 218 #[.val (.int p0), .val (.long q1), .second, .val (.int p2), .val (.long q3), .second, .val (.int p4), .val (.int p5), .val (.int n), .val (.int vA), .val (.int vB), .val (.int vC), .val (.int (q3.toInt32)), .val (.int (((q3.toUInt64 >>> ((32 : Int32) &&& 0x3f).toInt64.toUInt64).toInt64).toInt32)), .val (.int (p5 &&& (3 : Int32))), .val (.int vB), .val (.ref b24), .val (.int (1 : Int32))] [(.int (q3.toInt32)), (.int vA), (.int vB), (.int (own_exp vB vA (q3.toInt32) vB (((q3.toUInt64 >>> ((32 : Int32) &&& 0x3f).toInt64.toUInt64).toInt64).toInt32) vC p4))]))
      refine ogo (fun t k => XS.iload X37.here hx rfl (hb hby at_218) rfl k) ?_
      show OwnEnds _ _ _ _ _ _ _ (T37.setTop (mkF m 220 #[.val (.int p0), .val (.long q1), .second, .val (.int p2), .val (.long q3), .second, .val (.int p4), .val (.int p5), .val (.int n), .val (.int vA), .val (.int vB), .val (.int vC), .val (.int (q3.toInt32)), .val (.int (((q3.toUInt64 >>> ((32 : Int32) &&& 0x3f).toInt64.toUInt64).toInt64).toInt32)), .val (.int (p5 &&& (3 : Int32))), .val (.int vB), .val (.ref b24), .val (.int (1 : Int32))] [(.int vB), (.int (q3.toInt32)), (.int vA), (.int vB), (.int (own_exp vB vA (q3.toInt32) vB (((q3.toUInt64 >>> ((32 : Int32) &&& 0x3f).toInt64.toUInt64).toInt64).toInt32) vC p4))]))
      refine ogo (fun t k => XS.iload X37.here hx rfl (hb hby at_220) rfl k) ?_
      show OwnEnds _ _ _ _ _ _ _ (T37.setTop (mkF m 222 #[.val (.int p0), .val (.long q1), .second, .val (.int p2), .val (.long q3), .second, .val (.int p4), .val (.int p5), .val (.int n), .val (.int vA), .val (.int vB), .val (.int vC), .val (.int (q3.toInt32)), .val (.int (((q3.toUInt64 >>> ((32 : Int32) &&& 0x3f).toInt64.toUInt64).toInt64).toInt32)), .val (.int (p5 &&& (3 : Int32))), .val (.int vB), .val (.ref b24), .val (.int (1 : Int32))] [(.int (((q3.toUInt64 >>> ((32 : Int32) &&& 0x3f).toInt64.toUInt64).toInt64).toInt32)), (.int vB), (.int (q3.toInt32)), (.int vA), (.int vB), (.int (own_exp vB vA (q3.toInt32) vB (((q3.toUInt64 >>> ((32 : Int32) &&& 0x3f).toInt64.toUInt64).toInt64).toInt32) vC p4))]))
      refine ogo (fun t k => XS.iload X37.here hx rfl (hb hby at_222) rfl k) ?_
      show OwnEnds _ _ _ _ _ _ _ (T37.setTop (mkF m 224 #[.val (.int p0), .val (.long q1), .second, .val (.int p2), .val (.long q3), .second, .val (.int p4), .val (.int p5), .val (.int n), .val (.int vA), .val (.int vB), .val (.int vC), .val (.int (q3.toInt32)), .val (.int (((q3.toUInt64 >>> ((32 : Int32) &&& 0x3f).toInt64.toUInt64).toInt64).toInt32)), .val (.int (p5 &&& (3 : Int32))), .val (.int vB), .val (.ref b24), .val (.int (1 : Int32))] [(.int vC), (.int (((q3.toUInt64 >>> ((32 : Int32) &&& 0x3f).toInt64.toUInt64).toInt64).toInt32)), (.int vB), (.int (q3.toInt32)), (.int vA), (.int vB), (.int (own_exp vB vA (q3.toInt32) vB (((q3.toUInt64 >>> ((32 : Int32) &&& 0x3f).toInt64.toUInt64).toInt64).toInt32) vC p4))]))
      refine ogo (fun t k => XS.iload X37.here hx rfl (hb hby at_224) rfl k) ?_
      show OwnEnds _ _ _ _ _ _ _ (T37.setTop (mkF m 226 #[.val (.int p0), .val (.long q1), .second, .val (.int p2), .val (.long q3), .second, .val (.int p4), .val (.int p5), .val (.int n), .val (.int vA), .val (.int vB), .val (.int vC), .val (.int (q3.toInt32)), .val (.int (((q3.toUInt64 >>> ((32 : Int32) &&& 0x3f).toInt64.toUInt64).toInt64).toInt32)), .val (.int (p5 &&& (3 : Int32))), .val (.int vB), .val (.ref b24), .val (.int (1 : Int32))] [(.int p4), (.int vC), (.int (((q3.toUInt64 >>> ((32 : Int32) &&& 0x3f).toInt64.toUInt64).toInt64).toInt32)), (.int vB), (.int (q3.toInt32)), (.int vA), (.int vB), (.int (own_exp vB vA (q3.toInt32) vB (((q3.toUInt64 >>> ((32 : Int32) &&& 0x3f).toInt64.toUInt64).toInt64).toInt32) vC p4))]))
      obtain ⟨v38, _, ⟨T38, L38, k38, n38⟩, -, X38, ⟨Lc38, hQ38, l38, y38, z38⟩, st38⟩ := Jvm.LawKit.callS X37 hx (y := (⟨"com/example/dispatchwave/dispatchwave/model/VertexLabelsGetPinLaw", "expected", "(IIIIIII)I"⟩ : MethodName)) hown (mvT hZ (hw _ (List.mem_of_getElem? (i := 40) rfl))) (mvT hZ (hw _ (List.mem_of_getElem? (i := 41) rfl))) (mvT hZ (hw _ (List.mem_of_getElem? (i := 2) rfl))) (mvT hZ (hw _ (List.mem_of_getElem? (i := 42) rfl))) (by decide) (backOf (W := 1) (rm7 l Z a0 hw [] vB vA (q3.toInt32) vB (((q3.toUInt64 >>> ((32 : Int32) &&& 0x3f).toInt64.toUInt64).toInt64).toInt32) vC p4 T34.heap n0 Z34 ) hZ (hw _ (List.mem_of_getElem? (i := 42) rfl)) (hw _ (List.mem_of_getElem? (i := 2) rfl)) (by decide) (by decide)) (g := (mkF m 226 #[.val (.int p0), .val (.long q1), .second, .val (.int p2), .val (.long q3), .second, .val (.int p4), .val (.int p5), .val (.int n), .val (.int vA), .val (.int vB), .val (.int vC), .val (.int (q3.toInt32)), .val (.int (((q3.toUInt64 >>> ((32 : Int32) &&& 0x3f).toInt64.toUInt64).toInt64).toInt32)), .val (.int (p5 &&& (3 : Int32))), .val (.int vB), .val (.ref b24), .val (.int (1 : Int32))] [(.int p4), (.int vC), (.int (((q3.toUInt64 >>> ((32 : Int32) &&& 0x3f).toInt64.toUInt64).toInt64).toInt32)), (.int vB), (.int (q3.toInt32)), (.int vA), (.int vB), (.int (own_exp vB vA (q3.toInt32) vB (((q3.toUInt64 >>> ((32 : Int32) &&& 0x3f).toInt64.toUInt64).toInt64).toInt32) vC p4))])) rfl (by rw [hml]; rfl) (argsL := [(.int vB), (.int vA), (.int (q3.toInt32)), (.int vB), (.int (((q3.toUInt64 >>> ((32 : Int32) &&& 0x3f).toInt64.toUInt64).toInt64).toInt32)), (.int vC), (.int p4)]) (rest := [(.int (own_exp vB vA (q3.toInt32) vB (((q3.toUInt64 >>> ((32 : Int32) &&& 0x3f).toInt64.toUInt64).toInt64).toInt32) vC p4))]) (lenOf pd__IIIIIII_I rfl) rfl (by show 2 * 0 + _ ≤ _; exact Nat.le_of_eq rfl) (hb hby at_226) (fun _ _ => ⟨rfl, e37, (by decide : 5 + 0 ≤ _), (by decide : 1413 + 0 ≤ _)⟩)
      dsimp only [Pt.U, Pt.locs, Pt.cells, Pt.slots] at X38 l38 y38 z38 st38 hQ38
      subst l38 y38 z38
      obtain ⟨rfl, N38q, e38⟩ := hQ38
      have N38 := Fr.app N37 N38q
      refine ogo (fun t k => st38 t k) ?_
      show OwnEnds _ _ _ _ _ _ _ (T38.setTop (mkF m 229 #[.val (.int p0), .val (.long q1), .second, .val (.int p2), .val (.long q3), .second, .val (.int p4), .val (.int p5), .val (.int n), .val (.int vA), .val (.int vB), .val (.int vC), .val (.int (q3.toInt32)), .val (.int (((q3.toUInt64 >>> ((32 : Int32) &&& 0x3f).toInt64.toUInt64).toInt64).toInt32)), .val (.int (p5 &&& (3 : Int32))), .val (.int vB), .val (.ref b24), .val (.int (1 : Int32))] [(.int (own_exp vB vA (q3.toInt32) vB (((q3.toUInt64 >>> ((32 : Int32) &&& 0x3f).toInt64.toUInt64).toInt64).toInt32) vC p4)), (.int (own_exp vB vA (q3.toInt32) vB (((q3.toUInt64 >>> ((32 : Int32) &&& 0x3f).toInt64.toUInt64).toInt64).toInt32) vC p4))]))
      refine ogo (fun t k => XS.icmpNo X38.here hx rfl (hb hby at_229) rfl (teq (rfl : (own_exp vB vA (q3.toInt32) vB (((q3.toUInt64 >>> ((32 : Int32) &&& 0x3f).toInt64.toUInt64).toInt64).toInt32) vC p4) = (own_exp vB vA (q3.toInt32) vB (((q3.toUInt64 >>> ((32 : Int32) &&& 0x3f).toInt64.toUInt64).toInt64).toInt32) vC p4))).2 k) ?_
      show OwnEnds _ _ _ _ _ _ _ (T38.setTop (mkF m 232 #[.val (.int p0), .val (.long q1), .second, .val (.int p2), .val (.long q3), .second, .val (.int p4), .val (.int p5), .val (.int n), .val (.int vA), .val (.int vB), .val (.int vC), .val (.int (q3.toInt32)), .val (.int (((q3.toUInt64 >>> ((32 : Int32) &&& 0x3f).toInt64.toUInt64).toInt64).toInt32)), .val (.int (p5 &&& (3 : Int32))), .val (.int vB), .val (.ref b24), .val (.int (1 : Int32))] []))
      refine ogo (fun t k => XS.iconst X38.here hx rfl (hb hby at_232) k) ?_
      show OwnEnds _ _ _ _ _ _ _ (T38.setTop (mkF m 233 #[.val (.int p0), .val (.long q1), .second, .val (.int p2), .val (.long q3), .second, .val (.int p4), .val (.int p5), .val (.int n), .val (.int vA), .val (.int vB), .val (.int vC), .val (.int (q3.toInt32)), .val (.int (((q3.toUInt64 >>> ((32 : Int32) &&& 0x3f).toInt64.toUInt64).toInt64).toInt32)), .val (.int (p5 &&& (3 : Int32))), .val (.int vB), .val (.ref b24), .val (.int (1 : Int32))] [(.int (1 : Int32))]))
      refine ogo (fun t k => XS.goto X38.here hx rfl (pc0 := 233) (pc' := 237) rfl (hb hby at_233) (by decide) (by decide) k) ?_
      show OwnEnds _ _ _ _ _ _ _ (T38.setTop (mkF m 237 #[.val (.int p0), .val (.long q1), .second, .val (.int p2), .val (.long q3), .second, .val (.int p4), .val (.int p5), .val (.int n), .val (.int vA), .val (.int vB), .val (.int vC), .val (.int (q3.toInt32)), .val (.int (((q3.toUInt64 >>> ((32 : Int32) &&& 0x3f).toInt64.toUInt64).toInt64).toInt32)), .val (.int (p5 &&& (3 : Int32))), .val (.int vB), .val (.ref b24), .val (.int (1 : Int32))] [(.int (1 : Int32))]))
      refine ogo (fun t k => XS.istore X38.here hx rfl (hb hby at_237) rfl (l' := #[.val (.int p0), .val (.long q1), .second, .val (.int p2), .val (.long q3), .second, .val (.int p4), .val (.int p5), .val (.int n), .val (.int vA), .val (.int vB), .val (.int vC), .val (.int (q3.toInt32)), .val (.int (((q3.toUInt64 >>> ((32 : Int32) &&& 0x3f).toInt64.toUInt64).toInt64).toInt32)), .val (.int (p5 &&& (3 : Int32))), .val (.int vB), .val (.ref b24), .val (.int (1 : Int32))]) rfl k) ?_
      show OwnEnds _ _ _ _ _ _ _ (T38.setTop (mkF m 239 #[.val (.int p0), .val (.long q1), .second, .val (.int p2), .val (.long q3), .second, .val (.int p4), .val (.int p5), .val (.int n), .val (.int vA), .val (.int vB), .val (.int vC), .val (.int (q3.toInt32)), .val (.int (((q3.toUInt64 >>> ((32 : Int32) &&& 0x3f).toInt64.toUInt64).toInt64).toInt32)), .val (.int (p5 &&& (3 : Int32))), .val (.int vB), .val (.ref b24), .val (.int (1 : Int32))] []))
      refine ogo (fun t k => XS.iload X38.here hx rfl (hb hby at_239) rfl k) ?_
      show OwnEnds _ _ _ _ _ _ _ (T38.setTop (mkF m 241 #[.val (.int p0), .val (.long q1), .second, .val (.int p2), .val (.long q3), .second, .val (.int p4), .val (.int p5), .val (.int n), .val (.int vA), .val (.int vB), .val (.int vC), .val (.int (q3.toInt32)), .val (.int (((q3.toUInt64 >>> ((32 : Int32) &&& 0x3f).toInt64.toUInt64).toInt64).toInt32)), .val (.int (p5 &&& (3 : Int32))), .val (.int vB), .val (.ref b24), .val (.int (1 : Int32))] [(.int (1 : Int32))]))
      refine ogo (fun t k => XS.ifNo X38.here hx rfl (hb hby at_241) rfl ((if0 _ _).trans (feq (by decide : ¬ ((1 : Int32) = (0 : Int32)))).1) k) ?_
      show OwnEnds _ _ _ _ _ _ _ (T38.setTop (mkF m 244 #[.val (.int p0), .val (.long q1), .second, .val (.int p2), .val (.long q3), .second, .val (.int p4), .val (.int p5), .val (.int n), .val (.int vA), .val (.int vB), .val (.int vC), .val (.int (q3.toInt32)), .val (.int (((q3.toUInt64 >>> ((32 : Int32) &&& 0x3f).toInt64.toUInt64).toInt64).toInt32)), .val (.int (p5 &&& (3 : Int32))), .val (.int vB), .val (.ref b24), .val (.int (1 : Int32))] []))
      refine ogo (fun t k => XS.aload X38.here hx rfl (hb hby at_244) rfl rfl k) ?_
      show OwnEnds _ _ _ _ _ _ _ (T38.setTop (mkF m 246 #[.val (.int p0), .val (.long q1), .second, .val (.int p2), .val (.long q3), .second, .val (.int p4), .val (.int p5), .val (.int n), .val (.int vA), .val (.int vB), .val (.int vC), .val (.int (q3.toInt32)), .val (.int (((q3.toUInt64 >>> ((32 : Int32) &&& 0x3f).toInt64.toUInt64).toInt64).toInt32)), .val (.int (p5 &&& (3 : Int32))), .val (.int vB), .val (.ref b24), .val (.int (1 : Int32))] [(.ref b24)]))
      refine ogo (fun t k => XS.iload X38.here hx rfl (hb hby at_246) rfl k) ?_
      show OwnEnds _ _ _ _ _ _ _ (T38.setTop (mkF m 248 #[.val (.int p0), .val (.long q1), .second, .val (.int p2), .val (.long q3), .second, .val (.int p4), .val (.int p5), .val (.int n), .val (.int vA), .val (.int vB), .val (.int vC), .val (.int (q3.toInt32)), .val (.int (((q3.toUInt64 >>> ((32 : Int32) &&& 0x3f).toInt64.toUInt64).toInt64).toInt32)), .val (.int (p5 &&& (3 : Int32))), .val (.int vB), .val (.ref b24), .val (.int (1 : Int32))] [(.int vC), (.ref b24)]))
      obtain ⟨cq39, kq39, q39a, q39b, q39c⟩ := isOf hZ e38 E34a
      obtain ⟨v39, _, ⟨T39, L39, k39, n39⟩, -, X39, ⟨Lc39, hQ39, l39, y39, z39⟩, st39⟩ := X38.virtualBack hx (y := (⟨"com/example/dispatchwave/dispatchwave/model/VertexLabels", "get", "(I)I"⟩ : MethodName)) (z := (⟨"com/example/dispatchwave/dispatchwave/model/VertexLabels", "get", "(I)I"⟩ : MethodName)) hown (mvT hZ (hw _ (List.mem_of_getElem? (i := 20) rfl))) (mvT hZ (hw _ (List.mem_of_getElem? (i := 21) rfl))) (notFace_of_selects (args := #[]) (mvT hZ (hw _ (List.mem_of_getElem? (i := 23) rfl)))) (mvT hZ (hw _ (List.mem_of_getElem? (i := 23) rfl))) (mvT hZ (hw _ (List.mem_of_getElem? (i := 22) rfl))) (by decide) (backOf (W := 0) (rm2 l Z a0 hw [] b24 vC n (fupd (fupd (fupd (fun _ => 0) vA.toInt.toNat (q3.toInt32)) vB.toInt.toNat (((q3.toUInt64 >>> ((32 : Int32) &&& 0x3f).toInt64.toUInt64).toInt64).toInt32)) vC.toInt.toNat p4) _ T34.heap n0 Z34 hL34 hn ivC) hZ (hw _ (List.mem_of_getElem? (i := 24) rfl)) (hw _ (List.mem_of_getElem? (i := 7) rfl)) (by decide) (by decide)) q39a q39c (g := (mkF m 248 #[.val (.int p0), .val (.long q1), .second, .val (.int p2), .val (.long q3), .second, .val (.int p4), .val (.int p5), .val (.int n), .val (.int vA), .val (.int vB), .val (.int vC), .val (.int (q3.toInt32)), .val (.int (((q3.toUInt64 >>> ((32 : Int32) &&& 0x3f).toInt64.toUInt64).toInt64).toInt32)), .val (.int (p5 &&& (3 : Int32))), .val (.int vB), .val (.ref b24), .val (.int (1 : Int32))] [(.int vC), (.ref b24)])) rfl (by rw [hml]; rfl) (Steps.refl _) (argsL := [(.int vC)]) (rest := []) (lenOf pd__I_I rfl) rfl (by show 2 * 0 + _ ≤ _; exact Nat.le_of_eq rfl) (hb hby at_248) (fun _ _ => ⟨rfl, e38, (by decide : 5 + 0 ≤ _), (by decide : 1413 + 0 ≤ _)⟩)
      dsimp only [Pt.U, Pt.locs, Pt.cells, Pt.slots] at X39 l39 y39 z39 st39 hQ39
      subst l39 y39 z39
      obtain ⟨hv39, N39q, e39⟩ := hQ39
      obtain rfl : v39 = some (.int p4) := hv39.trans (by rw [own_fin3])
      have N39 := Fr.app N38 N39q
      refine ogo (fun t k => st39.trans k) ?_
      show OwnEnds _ _ _ _ _ _ _ (T39.setTop (mkF m 251 #[.val (.int p0), .val (.long q1), .second, .val (.int p2), .val (.long q3), .second, .val (.int p4), .val (.int p5), .val (.int n), .val (.int vA), .val (.int vB), .val (.int vC), .val (.int (q3.toInt32)), .val (.int (((q3.toUInt64 >>> ((32 : Int32) &&& 0x3f).toInt64.toUInt64).toInt64).toInt32)), .val (.int (p5 &&& (3 : Int32))), .val (.int vB), .val (.ref b24), .val (.int (1 : Int32))] [(.int p4)]))
      refine ogo (fun t k => XS.iload X39.here hx rfl (hb hby at_251) rfl k) ?_
      show OwnEnds _ _ _ _ _ _ _ (T39.setTop (mkF m 253 #[.val (.int p0), .val (.long q1), .second, .val (.int p2), .val (.long q3), .second, .val (.int p4), .val (.int p5), .val (.int n), .val (.int vA), .val (.int vB), .val (.int vC), .val (.int (q3.toInt32)), .val (.int (((q3.toUInt64 >>> ((32 : Int32) &&& 0x3f).toInt64.toUInt64).toInt64).toInt32)), .val (.int (p5 &&& (3 : Int32))), .val (.int vB), .val (.ref b24), .val (.int (1 : Int32))] [(.int p4), (.int p4)]))
      refine ogo (fun t k => XS.icmpNo X39.here hx rfl (hb hby at_253) rfl (teq (rfl : p4 = p4)).2 k) ?_
      show OwnEnds _ _ _ _ _ _ _ (T39.setTop (mkF m 256 #[.val (.int p0), .val (.long q1), .second, .val (.int p2), .val (.long q3), .second, .val (.int p4), .val (.int p5), .val (.int n), .val (.int vA), .val (.int vB), .val (.int vC), .val (.int (q3.toInt32)), .val (.int (((q3.toUInt64 >>> ((32 : Int32) &&& 0x3f).toInt64.toUInt64).toInt64).toInt32)), .val (.int (p5 &&& (3 : Int32))), .val (.int vB), .val (.ref b24), .val (.int (1 : Int32))] []))
      refine ogo (fun t k => XS.iconst X39.here hx rfl (hb hby at_256) k) ?_
      show OwnEnds _ _ _ _ _ _ _ (T39.setTop (mkF m 257 #[.val (.int p0), .val (.long q1), .second, .val (.int p2), .val (.long q3), .second, .val (.int p4), .val (.int p5), .val (.int n), .val (.int vA), .val (.int vB), .val (.int vC), .val (.int (q3.toInt32)), .val (.int (((q3.toUInt64 >>> ((32 : Int32) &&& 0x3f).toInt64.toUInt64).toInt64).toInt32)), .val (.int (p5 &&& (3 : Int32))), .val (.int vB), .val (.ref b24), .val (.int (1 : Int32))] [(.int (1 : Int32))]))
      refine ogo (fun t k => XS.goto X39.here hx rfl (pc0 := 257) (pc' := 261) rfl (hb hby at_257) (by decide) (by decide) k) ?_
      show OwnEnds _ _ _ _ _ _ _ (T39.setTop (mkF m 261 #[.val (.int p0), .val (.long q1), .second, .val (.int p2), .val (.long q3), .second, .val (.int p4), .val (.int p5), .val (.int n), .val (.int vA), .val (.int vB), .val (.int vC), .val (.int (q3.toInt32)), .val (.int (((q3.toUInt64 >>> ((32 : Int32) &&& 0x3f).toInt64.toUInt64).toInt64).toInt32)), .val (.int (p5 &&& (3 : Int32))), .val (.int vB), .val (.ref b24), .val (.int (1 : Int32))] [(.int (1 : Int32))]))
      refine ogo (fun t k => XS.istore X39.here hx rfl (hb hby at_261) rfl (l' := #[.val (.int p0), .val (.long q1), .second, .val (.int p2), .val (.long q3), .second, .val (.int p4), .val (.int p5), .val (.int n), .val (.int vA), .val (.int vB), .val (.int vC), .val (.int (q3.toInt32)), .val (.int (((q3.toUInt64 >>> ((32 : Int32) &&& 0x3f).toInt64.toUInt64).toInt64).toInt32)), .val (.int (p5 &&& (3 : Int32))), .val (.int vB), .val (.ref b24), .val (.int (1 : Int32))]) rfl k) ?_
      show OwnEnds _ _ _ _ _ _ _ (T39.setTop (mkF m 263 #[.val (.int p0), .val (.long q1), .second, .val (.int p2), .val (.long q3), .second, .val (.int p4), .val (.int p5), .val (.int n), .val (.int vA), .val (.int vB), .val (.int vC), .val (.int (q3.toInt32)), .val (.int (((q3.toUInt64 >>> ((32 : Int32) &&& 0x3f).toInt64.toUInt64).toInt64).toInt32)), .val (.int (p5 &&& (3 : Int32))), .val (.int vB), .val (.ref b24), .val (.int (1 : Int32))] []))
      refine ogo (fun t k => XS.iload X39.here hx rfl (hb hby at_263) rfl k) ?_
      show OwnEnds _ _ _ _ _ _ _ (T39.setTop (mkF m 265 #[.val (.int p0), .val (.long q1), .second, .val (.int p2), .val (.long q3), .second, .val (.int p4), .val (.int p5), .val (.int n), .val (.int vA), .val (.int vB), .val (.int vC), .val (.int (q3.toInt32)), .val (.int (((q3.toUInt64 >>> ((32 : Int32) &&& 0x3f).toInt64.toUInt64).toInt64).toInt32)), .val (.int (p5 &&& (3 : Int32))), .val (.int vB), .val (.ref b24), .val (.int (1 : Int32))] [(.int (1 : Int32))]))
      refine ogo (fun t k => XS.ifNo X39.here hx rfl (hb hby at_265) rfl ((if0 _ _).trans (feq (by decide : ¬ ((1 : Int32) = (0 : Int32)))).1) k) ?_
      show OwnEnds _ _ _ _ _ _ _ (T39.setTop (mkF m 268 #[.val (.int p0), .val (.long q1), .second, .val (.int p2), .val (.long q3), .second, .val (.int p4), .val (.int p5), .val (.int n), .val (.int vA), .val (.int vB), .val (.int vC), .val (.int (q3.toInt32)), .val (.int (((q3.toUInt64 >>> ((32 : Int32) &&& 0x3f).toInt64.toUInt64).toInt64).toInt32)), .val (.int (p5 &&& (3 : Int32))), .val (.int vB), .val (.ref b24), .val (.int (1 : Int32))] []))
      refine ogo (fun t k => XS.aload X39.here hx rfl (hb hby at_268) rfl rfl k) ?_
      show OwnEnds _ _ _ _ _ _ _ (T39.setTop (mkF m 270 #[.val (.int p0), .val (.long q1), .second, .val (.int p2), .val (.long q3), .second, .val (.int p4), .val (.int p5), .val (.int n), .val (.int vA), .val (.int vB), .val (.int vC), .val (.int (q3.toInt32)), .val (.int (((q3.toUInt64 >>> ((32 : Int32) &&& 0x3f).toInt64.toUInt64).toInt64).toInt32)), .val (.int (p5 &&& (3 : Int32))), .val (.int vB), .val (.ref b24), .val (.int (1 : Int32))] [(.ref b24)]))
      refine ogo (fun t k => XS.iload X39.here hx rfl (hb hby at_270) rfl k) ?_
      show OwnEnds _ _ _ _ _ _ _ (T39.setTop (mkF m 272 #[.val (.int p0), .val (.long q1), .second, .val (.int p2), .val (.long q3), .second, .val (.int p4), .val (.int p5), .val (.int n), .val (.int vA), .val (.int vB), .val (.int vC), .val (.int (q3.toInt32)), .val (.int (((q3.toUInt64 >>> ((32 : Int32) &&& 0x3f).toInt64.toUInt64).toInt64).toInt32)), .val (.int (p5 &&& (3 : Int32))), .val (.int vB), .val (.ref b24), .val (.int (1 : Int32))] [(.int vB), (.ref b24)]))
      obtain ⟨cq40, kq40, q40a, q40b, q40c⟩ := isOf hZ e39 E34a
      obtain ⟨v40, _, ⟨T40, L40, k40, n40⟩, -, X40, ⟨Lc40, hQ40, l40, y40, z40⟩, st40⟩ := X39.virtualBack hx (y := (⟨"com/example/dispatchwave/dispatchwave/model/VertexLabels", "get", "(I)I"⟩ : MethodName)) (z := (⟨"com/example/dispatchwave/dispatchwave/model/VertexLabels", "get", "(I)I"⟩ : MethodName)) hown (mvT hZ (hw _ (List.mem_of_getElem? (i := 20) rfl))) (mvT hZ (hw _ (List.mem_of_getElem? (i := 21) rfl))) (notFace_of_selects (args := #[]) (mvT hZ (hw _ (List.mem_of_getElem? (i := 23) rfl)))) (mvT hZ (hw _ (List.mem_of_getElem? (i := 23) rfl))) (mvT hZ (hw _ (List.mem_of_getElem? (i := 22) rfl))) (by decide) (backOf (W := 0) (rm2 l Z a0 hw [] b24 vB n (fupd (fupd (fupd (fun _ => 0) vA.toInt.toNat (q3.toInt32)) vB.toInt.toNat (((q3.toUInt64 >>> ((32 : Int32) &&& 0x3f).toInt64.toUInt64).toInt64).toInt32)) vC.toInt.toNat p4) _ T34.heap n0 Z34 hL34 hn ivB) hZ (hw _ (List.mem_of_getElem? (i := 24) rfl)) (hw _ (List.mem_of_getElem? (i := 7) rfl)) (by decide) (by decide)) q40a q40c (g := (mkF m 272 #[.val (.int p0), .val (.long q1), .second, .val (.int p2), .val (.long q3), .second, .val (.int p4), .val (.int p5), .val (.int n), .val (.int vA), .val (.int vB), .val (.int vC), .val (.int (q3.toInt32)), .val (.int (((q3.toUInt64 >>> ((32 : Int32) &&& 0x3f).toInt64.toUInt64).toInt64).toInt32)), .val (.int (p5 &&& (3 : Int32))), .val (.int vB), .val (.ref b24), .val (.int (1 : Int32))] [(.int vB), (.ref b24)])) rfl (by rw [hml]; rfl) (Steps.refl _) (argsL := [(.int vB)]) (rest := []) (lenOf pd__I_I rfl) rfl (by show 2 * 0 + _ ≤ _; exact Nat.le_of_eq rfl) (hb hby at_272) (fun _ _ => ⟨rfl, e39, (by decide : 5 + 0 ≤ _), (by decide : 1413 + 0 ≤ _)⟩)
      dsimp only [Pt.U, Pt.locs, Pt.cells, Pt.slots] at X40 l40 y40 z40 st40 hQ40
      subst l40 y40 z40
      obtain ⟨hv40, N40q, e40⟩ := hQ40
      obtain rfl : v40 = some (.int (own_exp vB vA (q3.toInt32) vB (((q3.toUInt64 >>> ((32 : Int32) &&& 0x3f).toInt64.toUInt64).toInt64).toInt32) vC p4)) := hv40.trans (by rw [own_fin ivB ivA ivB ivC])
      have N40 := Fr.app N39 N40q
      refine ogo (fun t k => st40.trans k) ?_
      show OwnEnds _ _ _ _ _ _ _ (T40.setTop (mkF m 275 #[.val (.int p0), .val (.long q1), .second, .val (.int p2), .val (.long q3), .second, .val (.int p4), .val (.int p5), .val (.int n), .val (.int vA), .val (.int vB), .val (.int vC), .val (.int (q3.toInt32)), .val (.int (((q3.toUInt64 >>> ((32 : Int32) &&& 0x3f).toInt64.toUInt64).toInt64).toInt32)), .val (.int (p5 &&& (3 : Int32))), .val (.int vB), .val (.ref b24), .val (.int (1 : Int32))] [(.int (own_exp vB vA (q3.toInt32) vB (((q3.toUInt64 >>> ((32 : Int32) &&& 0x3f).toInt64.toUInt64).toInt64).toInt32) vC p4))]))
      refine ogo (fun t k => XS.iload X40.here hx rfl (hb hby at_275) rfl k) ?_
      show OwnEnds _ _ _ _ _ _ _ (T40.setTop (mkF m 277 #[.val (.int p0), .val (.long q1), .second, .val (.int p2), .val (.long q3), .second, .val (.int p4), .val (.int p5), .val (.int n), .val (.int vA), .val (.int vB), .val (.int vC), .val (.int (q3.toInt32)), .val (.int (((q3.toUInt64 >>> ((32 : Int32) &&& 0x3f).toInt64.toUInt64).toInt64).toInt32)), .val (.int (p5 &&& (3 : Int32))), .val (.int vB), .val (.ref b24), .val (.int (1 : Int32))] [(.int vB), (.int (own_exp vB vA (q3.toInt32) vB (((q3.toUInt64 >>> ((32 : Int32) &&& 0x3f).toInt64.toUInt64).toInt64).toInt32) vC p4))]))
      refine ogo (fun t k => XS.iload X40.here hx rfl (hb hby at_277) rfl k) ?_
      show OwnEnds _ _ _ _ _ _ _ (T40.setTop (mkF m 279 #[.val (.int p0), .val (.long q1), .second, .val (.int p2), .val (.long q3), .second, .val (.int p4), .val (.int p5), .val (.int n), .val (.int vA), .val (.int vB), .val (.int vC), .val (.int (q3.toInt32)), .val (.int (((q3.toUInt64 >>> ((32 : Int32) &&& 0x3f).toInt64.toUInt64).toInt64).toInt32)), .val (.int (p5 &&& (3 : Int32))), .val (.int vB), .val (.ref b24), .val (.int (1 : Int32))] [(.int vA), (.int vB), (.int (own_exp vB vA (q3.toInt32) vB (((q3.toUInt64 >>> ((32 : Int32) &&& 0x3f).toInt64.toUInt64).toInt64).toInt32) vC p4))]))
      refine ogo (fun t k => XS.iload X40.here hx rfl (hb hby at_279) rfl k) ?_
      show OwnEnds _ _ _ _ _ _ _ (T40.setTop (mkF m 281 #[.val (.int p0), .val (.long q1), .second, .val (.int p2), .val (.long q3), .second, .val (.int p4), .val (.int p5), .val (.int n), .val (.int vA), .val (.int vB), .val (.int vC), .val (.int (q3.toInt32)), .val (.int (((q3.toUInt64 >>> ((32 : Int32) &&& 0x3f).toInt64.toUInt64).toInt64).toInt32)), .val (.int (p5 &&& (3 : Int32))), .val (.int vB), .val (.ref b24), .val (.int (1 : Int32))] [(.int (q3.toInt32)), (.int vA), (.int vB), (.int (own_exp vB vA (q3.toInt32) vB (((q3.toUInt64 >>> ((32 : Int32) &&& 0x3f).toInt64.toUInt64).toInt64).toInt32) vC p4))]))
      refine ogo (fun t k => XS.iload X40.here hx rfl (hb hby at_281) rfl k) ?_
      show OwnEnds _ _ _ _ _ _ _ (T40.setTop (mkF m 283 #[.val (.int p0), .val (.long q1), .second, .val (.int p2), .val (.long q3), .second, .val (.int p4), .val (.int p5), .val (.int n), .val (.int vA), .val (.int vB), .val (.int vC), .val (.int (q3.toInt32)), .val (.int (((q3.toUInt64 >>> ((32 : Int32) &&& 0x3f).toInt64.toUInt64).toInt64).toInt32)), .val (.int (p5 &&& (3 : Int32))), .val (.int vB), .val (.ref b24), .val (.int (1 : Int32))] [(.int vB), (.int (q3.toInt32)), (.int vA), (.int vB), (.int (own_exp vB vA (q3.toInt32) vB (((q3.toUInt64 >>> ((32 : Int32) &&& 0x3f).toInt64.toUInt64).toInt64).toInt32) vC p4))]))
      refine ogo (fun t k => XS.iload X40.here hx rfl (hb hby at_283) rfl k) ?_
      show OwnEnds _ _ _ _ _ _ _ (T40.setTop (mkF m 285 #[.val (.int p0), .val (.long q1), .second, .val (.int p2), .val (.long q3), .second, .val (.int p4), .val (.int p5), .val (.int n), .val (.int vA), .val (.int vB), .val (.int vC), .val (.int (q3.toInt32)), .val (.int (((q3.toUInt64 >>> ((32 : Int32) &&& 0x3f).toInt64.toUInt64).toInt64).toInt32)), .val (.int (p5 &&& (3 : Int32))), .val (.int vB), .val (.ref b24), .val (.int (1 : Int32))] [(.int (((q3.toUInt64 >>> ((32 : Int32) &&& 0x3f).toInt64.toUInt64).toInt64).toInt32)), (.int vB), (.int (q3.toInt32)), (.int vA), (.int vB), (.int (own_exp vB vA (q3.toInt32) vB (((q3.toUInt64 >>> ((32 : Int32) &&& 0x3f).toInt64.toUInt64).toInt64).toInt32) vC p4))]))
      refine ogo (fun t k => XS.iload X40.here hx rfl (hb hby at_285) rfl k) ?_
      show OwnEnds _ _ _ _ _ _ _ (T40.setTop (mkF m 287 #[.val (.int p0), .val (.long q1), .second, .val (.int p2), .val (.long q3), .second, .val (.int p4), .val (.int p5), .val (.int n), .val (.int vA), .val (.int vB), .val (.int vC), .val (.int (q3.toInt32)), .val (.int (((q3.toUInt64 >>> ((32 : Int32) &&& 0x3f).toInt64.toUInt64).toInt64).toInt32)), .val (.int (p5 &&& (3 : Int32))), .val (.int vB), .val (.ref b24), .val (.int (1 : Int32))] [(.int vC), (.int (((q3.toUInt64 >>> ((32 : Int32) &&& 0x3f).toInt64.toUInt64).toInt64).toInt32)), (.int vB), (.int (q3.toInt32)), (.int vA), (.int vB), (.int (own_exp vB vA (q3.toInt32) vB (((q3.toUInt64 >>> ((32 : Int32) &&& 0x3f).toInt64.toUInt64).toInt64).toInt32) vC p4))]))
      refine ogo (fun t k => XS.iload X40.here hx rfl (hb hby at_287) rfl k) ?_
      show OwnEnds _ _ _ _ _ _ _ (T40.setTop (mkF m 289 #[.val (.int p0), .val (.long q1), .second, .val (.int p2), .val (.long q3), .second, .val (.int p4), .val (.int p5), .val (.int n), .val (.int vA), .val (.int vB), .val (.int vC), .val (.int (q3.toInt32)), .val (.int (((q3.toUInt64 >>> ((32 : Int32) &&& 0x3f).toInt64.toUInt64).toInt64).toInt32)), .val (.int (p5 &&& (3 : Int32))), .val (.int vB), .val (.ref b24), .val (.int (1 : Int32))] [(.int p4), (.int vC), (.int (((q3.toUInt64 >>> ((32 : Int32) &&& 0x3f).toInt64.toUInt64).toInt64).toInt32)), (.int vB), (.int (q3.toInt32)), (.int vA), (.int vB), (.int (own_exp vB vA (q3.toInt32) vB (((q3.toUInt64 >>> ((32 : Int32) &&& 0x3f).toInt64.toUInt64).toInt64).toInt32) vC p4))]))
      obtain ⟨v41, _, ⟨T41, L41, k41, n41⟩, -, X41, ⟨Lc41, hQ41, l41, y41, z41⟩, st41⟩ := Jvm.LawKit.callS X40 hx (y := (⟨"com/example/dispatchwave/dispatchwave/model/VertexLabelsGetPinLaw", "expected", "(IIIIIII)I"⟩ : MethodName)) hown (mvT hZ (hw _ (List.mem_of_getElem? (i := 40) rfl))) (mvT hZ (hw _ (List.mem_of_getElem? (i := 41) rfl))) (mvT hZ (hw _ (List.mem_of_getElem? (i := 2) rfl))) (mvT hZ (hw _ (List.mem_of_getElem? (i := 42) rfl))) (by decide) (backOf (W := 1) (rm7 l Z a0 hw [] vB vA (q3.toInt32) vB (((q3.toUInt64 >>> ((32 : Int32) &&& 0x3f).toInt64.toUInt64).toInt64).toInt32) vC p4 T34.heap n0 Z34 ) hZ (hw _ (List.mem_of_getElem? (i := 42) rfl)) (hw _ (List.mem_of_getElem? (i := 2) rfl)) (by decide) (by decide)) (g := (mkF m 289 #[.val (.int p0), .val (.long q1), .second, .val (.int p2), .val (.long q3), .second, .val (.int p4), .val (.int p5), .val (.int n), .val (.int vA), .val (.int vB), .val (.int vC), .val (.int (q3.toInt32)), .val (.int (((q3.toUInt64 >>> ((32 : Int32) &&& 0x3f).toInt64.toUInt64).toInt64).toInt32)), .val (.int (p5 &&& (3 : Int32))), .val (.int vB), .val (.ref b24), .val (.int (1 : Int32))] [(.int p4), (.int vC), (.int (((q3.toUInt64 >>> ((32 : Int32) &&& 0x3f).toInt64.toUInt64).toInt64).toInt32)), (.int vB), (.int (q3.toInt32)), (.int vA), (.int vB), (.int (own_exp vB vA (q3.toInt32) vB (((q3.toUInt64 >>> ((32 : Int32) &&& 0x3f).toInt64.toUInt64).toInt64).toInt32) vC p4))])) rfl (by rw [hml]; rfl) (argsL := [(.int vB), (.int vA), (.int (q3.toInt32)), (.int vB), (.int (((q3.toUInt64 >>> ((32 : Int32) &&& 0x3f).toInt64.toUInt64).toInt64).toInt32)), (.int vC), (.int p4)]) (rest := [(.int (own_exp vB vA (q3.toInt32) vB (((q3.toUInt64 >>> ((32 : Int32) &&& 0x3f).toInt64.toUInt64).toInt64).toInt32) vC p4))]) (lenOf pd__IIIIIII_I rfl) rfl (by show 2 * 0 + _ ≤ _; exact Nat.le_of_eq rfl) (hb hby at_289) (fun _ _ => ⟨rfl, e40, (by decide : 5 + 0 ≤ _), (by decide : 1413 + 0 ≤ _)⟩)
      dsimp only [Pt.U, Pt.locs, Pt.cells, Pt.slots] at X41 l41 y41 z41 st41 hQ41
      subst l41 y41 z41
      obtain ⟨rfl, N41q, e41⟩ := hQ41
      have N41 := Fr.app N40 N41q
      refine ogo (fun t k => st41 t k) ?_
      show OwnEnds _ _ _ _ _ _ _ (T41.setTop (mkF m 292 #[.val (.int p0), .val (.long q1), .second, .val (.int p2), .val (.long q3), .second, .val (.int p4), .val (.int p5), .val (.int n), .val (.int vA), .val (.int vB), .val (.int vC), .val (.int (q3.toInt32)), .val (.int (((q3.toUInt64 >>> ((32 : Int32) &&& 0x3f).toInt64.toUInt64).toInt64).toInt32)), .val (.int (p5 &&& (3 : Int32))), .val (.int vB), .val (.ref b24), .val (.int (1 : Int32))] [(.int (own_exp vB vA (q3.toInt32) vB (((q3.toUInt64 >>> ((32 : Int32) &&& 0x3f).toInt64.toUInt64).toInt64).toInt32) vC p4)), (.int (own_exp vB vA (q3.toInt32) vB (((q3.toUInt64 >>> ((32 : Int32) &&& 0x3f).toInt64.toUInt64).toInt64).toInt32) vC p4))]))
      refine ogo (fun t k => XS.icmpNo X41.here hx rfl (hb hby at_292) rfl (teq (rfl : (own_exp vB vA (q3.toInt32) vB (((q3.toUInt64 >>> ((32 : Int32) &&& 0x3f).toInt64.toUInt64).toInt64).toInt32) vC p4) = (own_exp vB vA (q3.toInt32) vB (((q3.toUInt64 >>> ((32 : Int32) &&& 0x3f).toInt64.toUInt64).toInt64).toInt32) vC p4))).2 k) ?_
      show OwnEnds _ _ _ _ _ _ _ (T41.setTop (mkF m 295 #[.val (.int p0), .val (.long q1), .second, .val (.int p2), .val (.long q3), .second, .val (.int p4), .val (.int p5), .val (.int n), .val (.int vA), .val (.int vB), .val (.int vC), .val (.int (q3.toInt32)), .val (.int (((q3.toUInt64 >>> ((32 : Int32) &&& 0x3f).toInt64.toUInt64).toInt64).toInt32)), .val (.int (p5 &&& (3 : Int32))), .val (.int vB), .val (.ref b24), .val (.int (1 : Int32))] []))
      refine ogo (fun t k => XS.iconst X41.here hx rfl (hb hby at_295) k) ?_
      show OwnEnds _ _ _ _ _ _ _ (T41.setTop (mkF m 296 #[.val (.int p0), .val (.long q1), .second, .val (.int p2), .val (.long q3), .second, .val (.int p4), .val (.int p5), .val (.int n), .val (.int vA), .val (.int vB), .val (.int vC), .val (.int (q3.toInt32)), .val (.int (((q3.toUInt64 >>> ((32 : Int32) &&& 0x3f).toInt64.toUInt64).toInt64).toInt32)), .val (.int (p5 &&& (3 : Int32))), .val (.int vB), .val (.ref b24), .val (.int (1 : Int32))] [(.int (1 : Int32))]))
      refine ogo (fun t k => XS.goto X41.here hx rfl (pc0 := 296) (pc' := 300) rfl (hb hby at_296) (by decide) (by decide) k) ?_
      show OwnEnds _ _ _ _ _ _ _ (T41.setTop (mkF m 300 #[.val (.int p0), .val (.long q1), .second, .val (.int p2), .val (.long q3), .second, .val (.int p4), .val (.int p5), .val (.int n), .val (.int vA), .val (.int vB), .val (.int vC), .val (.int (q3.toInt32)), .val (.int (((q3.toUInt64 >>> ((32 : Int32) &&& 0x3f).toInt64.toUInt64).toInt64).toInt32)), .val (.int (p5 &&& (3 : Int32))), .val (.int vB), .val (.ref b24), .val (.int (1 : Int32))] [(.int (1 : Int32))]))
      refine ogo (fun t k => XS.istore X41.here hx rfl (hb hby at_300) rfl (l' := #[.val (.int p0), .val (.long q1), .second, .val (.int p2), .val (.long q3), .second, .val (.int p4), .val (.int p5), .val (.int n), .val (.int vA), .val (.int vB), .val (.int vC), .val (.int (q3.toInt32)), .val (.int (((q3.toUInt64 >>> ((32 : Int32) &&& 0x3f).toInt64.toUInt64).toInt64).toInt32)), .val (.int (p5 &&& (3 : Int32))), .val (.int vB), .val (.ref b24), .val (.int (1 : Int32))]) rfl k) ?_
      show OwnEnds _ _ _ _ _ _ _ (T41.setTop (mkF m 302 #[.val (.int p0), .val (.long q1), .second, .val (.int p2), .val (.long q3), .second, .val (.int p4), .val (.int p5), .val (.int n), .val (.int vA), .val (.int vB), .val (.int vC), .val (.int (q3.toInt32)), .val (.int (((q3.toUInt64 >>> ((32 : Int32) &&& 0x3f).toInt64.toUInt64).toInt64).toInt32)), .val (.int (p5 &&& (3 : Int32))), .val (.int vB), .val (.ref b24), .val (.int (1 : Int32))] []))
      refine ogo (fun t k => XS.iload X41.here hx rfl (hb hby at_302) rfl k) ?_
      show OwnEnds _ _ _ _ _ _ _ (T41.setTop (mkF m 304 #[.val (.int p0), .val (.long q1), .second, .val (.int p2), .val (.long q3), .second, .val (.int p4), .val (.int p5), .val (.int n), .val (.int vA), .val (.int vB), .val (.int vC), .val (.int (q3.toInt32)), .val (.int (((q3.toUInt64 >>> ((32 : Int32) &&& 0x3f).toInt64.toUInt64).toInt64).toInt32)), .val (.int (p5 &&& (3 : Int32))), .val (.int vB), .val (.ref b24), .val (.int (1 : Int32))] [(.int (1 : Int32))]))
      refine endZ X41 hx hlk hret rfl (hb hby at_304) (by decide) (by decide) ?_
      show Q0 Z p0 q1 p2 q3 p4 p5 h0 n0 _ T41.heap _
      rw [e41]
      exact ⟨rfl, N41⟩
    · refine ogo (fun t k => XS.icmpYes X3.here hx rfl (pc0 := 72) (pc' := 82) rfl (hb hby at_72) rfl (feq hc23).2 (by decide) (by decide) k) ?_
      show OwnEnds _ _ _ _ _ _ _ (T3.setTop (mkF m 82 #[.val (.int p0), .val (.long q1), .second, .val (.int p2), .val (.long q3), .second, .val (.int p4), .val (.int p5), .val (.int n), .val (.int vA), .val (.int vB), .val (.int vC), .val (.int (q3.toInt32)), .val (.int (((q3.toUInt64 >>> ((32 : Int32) &&& 0x3f).toInt64.toUInt64).toInt64).toInt32)), .val (.int (p5 &&& (3 : Int32))), .unset, .unset, .unset] []))
      refine ogo (fun t k => XS.iload X3.here hx rfl (hb hby at_82) rfl k) ?_
      show OwnEnds _ _ _ _ _ _ _ (T3.setTop (mkF m 84 #[.val (.int p0), .val (.long q1), .second, .val (.int p2), .val (.long q3), .second, .val (.int p4), .val (.int p5), .val (.int n), .val (.int vA), .val (.int vB), .val (.int vC), .val (.int (q3.toInt32)), .val (.int (((q3.toUInt64 >>> ((32 : Int32) &&& 0x3f).toInt64.toUInt64).toInt64).toInt32)), .val (.int (p5 &&& (3 : Int32))), .unset, .unset, .unset] [(.int (p5 &&& (3 : Int32)))]))
      refine ogo (fun t k => XS.iconst X3.here hx rfl (hb hby at_84) k) ?_
      show OwnEnds _ _ _ _ _ _ _ (T3.setTop (mkF m 85 #[.val (.int p0), .val (.long q1), .second, .val (.int p2), .val (.long q3), .second, .val (.int p4), .val (.int p5), .val (.int n), .val (.int vA), .val (.int vB), .val (.int vC), .val (.int (q3.toInt32)), .val (.int (((q3.toUInt64 >>> ((32 : Int32) &&& 0x3f).toInt64.toUInt64).toInt64).toInt32)), .val (.int (p5 &&& (3 : Int32))), .unset, .unset, .unset] [(.int (2 : Int32)), (.int (p5 &&& (3 : Int32)))]))
      by_cases hc42 : (p5 &&& (3 : Int32)) = (2 : Int32)
      · refine ogo (fun t k => XS.icmpNo X3.here hx rfl (hb hby at_85) rfl (teq hc42).2 k) ?_
        show OwnEnds _ _ _ _ _ _ _ (T3.setTop (mkF m 88 #[.val (.int p0), .val (.long q1), .second, .val (.int p2), .val (.long q3), .second, .val (.int p4), .val (.int p5), .val (.int n), .val (.int vA), .val (.int vB), .val (.int vC), .val (.int (q3.toInt32)), .val (.int (((q3.toUInt64 >>> ((32 : Int32) &&& 0x3f).toInt64.toUInt64).toInt64).toInt32)), .val (.int (p5 &&& (3 : Int32))), .unset, .unset, .unset] []))
        refine ogo (fun t k => XS.iload X3.here hx rfl (hb hby at_88) rfl k) ?_
        show OwnEnds _ _ _ _ _ _ _ (T3.setTop (mkF m 90 #[.val (.int p0), .val (.long q1), .second, .val (.int p2), .val (.long q3), .second, .val (.int p4), .val (.int p5), .val (.int n), .val (.int vA), .val (.int vB), .val (.int vC), .val (.int (q3.toInt32)), .val (.int (((q3.toUInt64 >>> ((32 : Int32) &&& 0x3f).toInt64.toUInt64).toInt64).toInt32)), .val (.int (p5 &&& (3 : Int32))), .unset, .unset, .unset] [(.int vC)]))
        refine ogo (fun t k => XS.istore X3.here hx rfl (hb hby at_90) rfl (l' := #[.val (.int p0), .val (.long q1), .second, .val (.int p2), .val (.long q3), .second, .val (.int p4), .val (.int p5), .val (.int n), .val (.int vA), .val (.int vB), .val (.int vC), .val (.int (q3.toInt32)), .val (.int (((q3.toUInt64 >>> ((32 : Int32) &&& 0x3f).toInt64.toUInt64).toInt64).toInt32)), .val (.int (p5 &&& (3 : Int32))), .val (.int vC), .unset, .unset]) rfl k) ?_
        show OwnEnds _ _ _ _ _ _ _ (T3.setTop (mkF m 92 #[.val (.int p0), .val (.long q1), .second, .val (.int p2), .val (.long q3), .second, .val (.int p4), .val (.int p5), .val (.int n), .val (.int vA), .val (.int vB), .val (.int vC), .val (.int (q3.toInt32)), .val (.int (((q3.toUInt64 >>> ((32 : Int32) &&& 0x3f).toInt64.toUInt64).toInt64).toInt32)), .val (.int (p5 &&& (3 : Int32))), .val (.int vC), .unset, .unset] []))
        refine ogo (fun t k => XS.goto X3.here hx rfl (pc0 := 92) (pc' := 106) rfl (hb hby at_92) (by decide) (by decide) k) ?_
        show OwnEnds _ _ _ _ _ _ _ (T3.setTop (mkF m 106 #[.val (.int p0), .val (.long q1), .second, .val (.int p2), .val (.long q3), .second, .val (.int p4), .val (.int p5), .val (.int n), .val (.int vA), .val (.int vB), .val (.int vC), .val (.int (q3.toInt32)), .val (.int (((q3.toUInt64 >>> ((32 : Int32) &&& 0x3f).toInt64.toUInt64).toInt64).toInt32)), .val (.int (p5 &&& (3 : Int32))), .val (.int vC), .unset, .unset] []))
        obtain ⟨T43, h43, X43, e43, E43, A43, D43, -, st43⟩ := newO X3 hx hZ hown (hw _ (List.mem_of_getElem? (i := 5) rfl)) (hw _ (List.mem_of_getElem? (i := 6) rfl)) (hw _ (List.mem_of_getElem? (i := 7) rfl)) e3 (g := (mkF m 106 #[.val (.int p0), .val (.long q1), .second, .val (.int p2), .val (.long q3), .second, .val (.int p4), .val (.int p5), .val (.int n), .val (.int vA), .val (.int vB), .val (.int vC), .val (.int (q3.toInt32)), .val (.int (((q3.toUInt64 >>> ((32 : Int32) &&& 0x3f).toInt64.toUInt64).toInt64).toInt32)), .val (.int (p5 &&& (3 : Int32))), .val (.int vC), .unset, .unset] [])) rfl (hb hby at_106) (by decide) (by decide)
        obtain ⟨b43, g43⟩ : ∃ z, z = h0.size := ⟨_, rfl⟩
        rw [← g43] at A43 D43 st43
        have q_b43 : n0 ≤ b43 := Nat.le_trans Z0 (Nat.le_of_eq g43.symm)
        have OLD44 := OLD.ext E43
        have Z44 := Nat.le_trans Z0 E43.1
        have f45 : Fld Z h43 b43 "com/example/dispatchwave/dispatchwave/model/VertexLabels" "vertexCount" "I" (.int (0 : Int32)) := D43 (Or.inr (hw _ (List.mem_of_getElem? (i := 15) rfl))) (ty := .int) (by decide)
        have f46 : Fld Z h43 b43 "com/example/dispatchwave/dispatchwave/model/VertexLabels" "pages" "[[I" .null := D43 (Or.inl (hw _ (List.mem_of_getElem? (i := 19) rfl))) (ty := (.array (.array .int))) (by decide)
        have f47 : Fld Z h43 b43 "com/example/dispatchwave/dispatchwave/model/VertexLabels" "array" "[I" .null := D43 (Or.inl (hw _ (List.mem_of_getElem? (i := 26) rfl))) (ty := (.array .int)) (by decide)
        have f48 : Fld Z h43 b43 "com/example/dispatchwave/dispatchwave/model/VertexLabels" "made" "I" (.int (0 : Int32)) := D43 (Or.inl (hw _ (List.mem_of_getElem? (i := 38) rfl))) (ty := .int) (by decide)
        refine ogo st43 ?_
        show OwnEnds _ _ _ _ _ _ _ (T43.setTop (mkF m 109 #[.val (.int p0), .val (.long q1), .second, .val (.int p2), .val (.long q3), .second, .val (.int p4), .val (.int p5), .val (.int n), .val (.int vA), .val (.int vB), .val (.int vC), .val (.int (q3.toInt32)), .val (.int (((q3.toUInt64 >>> ((32 : Int32) &&& 0x3f).toInt64.toUInt64).toInt64).toInt32)), .val (.int (p5 &&& (3 : Int32))), .val (.int vC), .unset, .unset] [(.ref b43)]))
        refine ogo (fun t k => XS.dup X43.here hx rfl (hb hby at_109) rfl rfl k) ?_
        show OwnEnds _ _ _ _ _ _ _ (T43.setTop (mkF m 110 #[.val (.int p0), .val (.long q1), .second, .val (.int p2), .val (.long q3), .second, .val (.int p4), .val (.int p5), .val (.int n), .val (.int vA), .val (.int vB), .val (.int vC), .val (.int (q3.toInt32)), .val (.int (((q3.toUInt64 >>> ((32 : Int32) &&& 0x3f).toInt64.toUInt64).toInt64).toInt32)), .val (.int (p5 &&& (3 : Int32))), .val (.int vC), .unset, .unset] [(.ref b43), (.ref b43)]))
        refine ogo (fun t k => XS.iload X43.here hx rfl (hb hby at_110) rfl k) ?_
        show OwnEnds _ _ _ _ _ _ _ (T43.setTop (mkF m 112 #[.val (.int p0), .val (.long q1), .second, .val (.int p2), .val (.long q3), .second, .val (.int p4), .val (.int p5), .val (.int n), .val (.int vA), .val (.int vB), .val (.int vC), .val (.int (q3.toInt32)), .val (.int (((q3.toUInt64 >>> ((32 : Int32) &&& 0x3f).toInt64.toUInt64).toInt64).toInt32)), .val (.int (p5 &&& (3 : Int32))), .val (.int vC), .unset, .unset] [(.int n), (.ref b43), (.ref b43)]))
        obtain ⟨v49, _, ⟨T49, L49, k49, n49⟩, -, X49, ⟨Lc49, hQ49, l49, y49, z49⟩, st49⟩ := X43.specialBack hx (y := (⟨"com/example/dispatchwave/dispatchwave/model/VertexLabels", "<init>", "(I)V"⟩ : MethodName)) rfl hown (mvT hZ (hw _ (List.mem_of_getElem? (i := 8) rfl))) (mvT hZ (hw _ (List.mem_of_getElem? (i := 9) rfl))) (mvT hZ (hw _ (List.mem_of_getElem? (i := 10) rfl))) (by decide) (backOf (W := 1) (rm1 l Z a0 hw [] b43 n h43 n0 Z44 OLD44 A43 f45 f46 f47 f48 q_b43 hn) hZ (hw _ (List.mem_of_getElem? (i := 10) rfl)) (hw _ (List.mem_of_getElem? (i := 7) rfl)) (by decide) (by decide)) (g := (mkF m 112 #[.val (.int p0), .val (.long q1), .second, .val (.int p2), .val (.long q3), .second, .val (.int p4), .val (.int p5), .val (.int n), .val (.int vA), .val (.int vB), .val (.int vC), .val (.int (q3.toInt32)), .val (.int (((q3.toUInt64 >>> ((32 : Int32) &&& 0x3f).toInt64.toUInt64).toInt64).toInt32)), .val (.int (p5 &&& (3 : Int32))), .val (.int vC), .unset, .unset] [(.int n), (.ref b43), (.ref b43)])) rfl (by rw [hml]; rfl) (Steps.refl _) (a := b43) (argsL := [(.int n)]) (rest := [(.ref b43)]) (lenOf pd__I_V rfl) rfl (by show 2 * 0 + _ ≤ _; exact Nat.le_of_eq rfl) (hb hby at_112) (fun _ _ => ⟨rfl, e43, (by decide : 1 + 1 ≤ _), (by decide : 4 + 65 ≤ _)⟩)
        dsimp only [Pt.U, Pt.locs, Pt.cells, Pt.slots] at X49 l49 y49 z49 st49 hQ49
        subst l49 y49 z49
        obtain ⟨rfl, N49q, OLD49, Z49, hL49⟩ := hQ49
        have N49 := Fr.app N3 N49q
        have E49a := hL49.1.2.1
        refine ogo (fun t k => st49.trans k) ?_
        show OwnEnds _ _ _ _ _ _ _ (T49.setTop (mkF m 115 #[.val (.int p0), .val (.long q1), .second, .val (.int p2), .val (.long q3), .second, .val (.int p4), .val (.int p5), .val (.int n), .val (.int vA), .val (.int vB), .val (.int vC), .val (.int (q3.toInt32)), .val (.int (((q3.toUInt64 >>> ((32 : Int32) &&& 0x3f).toInt64.toUInt64).toInt64).toInt32)), .val (.int (p5 &&& (3 : Int32))), .val (.int vC), .unset, .unset] [(.ref b43)]))
        refine ogo (fun t k => XS.astore X49.here hx rfl (hb hby at_115) rfl rfl (l' := #[.val (.int p0), .val (.long q1), .second, .val (.int p2), .val (.long q3), .second, .val (.int p4), .val (.int p5), .val (.int n), .val (.int vA), .val (.int vB), .val (.int vC), .val (.int (q3.toInt32)), .val (.int (((q3.toUInt64 >>> ((32 : Int32) &&& 0x3f).toInt64.toUInt64).toInt64).toInt32)), .val (.int (p5 &&& (3 : Int32))), .val (.int vC), .val (.ref b43), .unset]) rfl k) ?_
        show OwnEnds _ _ _ _ _ _ _ (T49.setTop (mkF m 117 #[.val (.int p0), .val (.long q1), .second, .val (.int p2), .val (.long q3), .second, .val (.int p4), .val (.int p5), .val (.int n), .val (.int vA), .val (.int vB), .val (.int vC), .val (.int (q3.toInt32)), .val (.int (((q3.toUInt64 >>> ((32 : Int32) &&& 0x3f).toInt64.toUInt64).toInt64).toInt32)), .val (.int (p5 &&& (3 : Int32))), .val (.int vC), .val (.ref b43), .unset] []))
        refine ogo (fun t k => XS.aload X49.here hx rfl (hb hby at_117) rfl rfl k) ?_
        show OwnEnds _ _ _ _ _ _ _ (T49.setTop (mkF m 119 #[.val (.int p0), .val (.long q1), .second, .val (.int p2), .val (.long q3), .second, .val (.int p4), .val (.int p5), .val (.int n), .val (.int vA), .val (.int vB), .val (.int vC), .val (.int (q3.toInt32)), .val (.int (((q3.toUInt64 >>> ((32 : Int32) &&& 0x3f).toInt64.toUInt64).toInt64).toInt32)), .val (.int (p5 &&& (3 : Int32))), .val (.int vC), .val (.ref b43), .unset] [(.ref b43)]))
        refine ogo (fun t k => XS.iload X49.here hx rfl (hb hby at_119) rfl k) ?_
        show OwnEnds _ _ _ _ _ _ _ (T49.setTop (mkF m 121 #[.val (.int p0), .val (.long q1), .second, .val (.int p2), .val (.long q3), .second, .val (.int p4), .val (.int p5), .val (.int n), .val (.int vA), .val (.int vB), .val (.int vC), .val (.int (q3.toInt32)), .val (.int (((q3.toUInt64 >>> ((32 : Int32) &&& 0x3f).toInt64.toUInt64).toInt64).toInt32)), .val (.int (p5 &&& (3 : Int32))), .val (.int vC), .val (.ref b43), .unset] [(.int vC), (.ref b43)]))
        obtain ⟨cq50, kq50, q50a, q50b, q50c⟩ := isOf hZ rfl E49a
        obtain ⟨v50, _, ⟨T50, L50, k50, n50⟩, -, X50, ⟨Lc50, hQ50, l50, y50, z50⟩, st50⟩ := X49.virtualBack hx (y := (⟨"com/example/dispatchwave/dispatchwave/model/VertexLabels", "get", "(I)I"⟩ : MethodName)) (z := (⟨"com/example/dispatchwave/dispatchwave/model/VertexLabels", "get", "(I)I"⟩ : MethodName)) hown (mvT hZ (hw _ (List.mem_of_getElem? (i := 20) rfl))) (mvT hZ (hw _ (List.mem_of_getElem? (i := 21) rfl))) (notFace_of_selects (args := #[]) (mvT hZ (hw _ (List.mem_of_getElem? (i := 23) rfl)))) (mvT hZ (hw _ (List.mem_of_getElem? (i := 23) rfl))) (mvT hZ (hw _ (List.mem_of_getElem? (i := 22) rfl))) (by decide) (backOf (W := 0) (rm2 l Z a0 hw [] b43 vC n (fun _ => 0) _ T49.heap n0 Z49 hL49 hn ivC) hZ (hw _ (List.mem_of_getElem? (i := 24) rfl)) (hw _ (List.mem_of_getElem? (i := 7) rfl)) (by decide) (by decide)) q50a q50c (g := (mkF m 121 #[.val (.int p0), .val (.long q1), .second, .val (.int p2), .val (.long q3), .second, .val (.int p4), .val (.int p5), .val (.int n), .val (.int vA), .val (.int vB), .val (.int vC), .val (.int (q3.toInt32)), .val (.int (((q3.toUInt64 >>> ((32 : Int32) &&& 0x3f).toInt64.toUInt64).toInt64).toInt32)), .val (.int (p5 &&& (3 : Int32))), .val (.int vC), .val (.ref b43), .unset] [(.int vC), (.ref b43)])) rfl (by rw [hml]; rfl) (Steps.refl _) (argsL := [(.int vC)]) (rest := []) (lenOf pd__I_I rfl) rfl (by show 2 * 0 + _ ≤ _; exact Nat.le_of_eq rfl) (hb hby at_121) (fun _ _ => ⟨rfl, rfl, (by decide : 2 + 0 ≤ _), (by decide : 69 + 0 ≤ _)⟩)
        dsimp only [Pt.U, Pt.locs, Pt.cells, Pt.slots] at X50 l50 y50 z50 st50 hQ50
        subst l50 y50 z50
        obtain ⟨hv50, N50q, e50⟩ := hQ50
        obtain rfl : v50 = some (.int (0 : Int32)) := hv50.trans (by rfl)
        have N50 := Fr.app N49 N50q
        refine ogo (fun t k => st50.trans k) ?_
        show OwnEnds _ _ _ _ _ _ _ (T50.setTop (mkF m 124 #[.val (.int p0), .val (.long q1), .second, .val (.int p2), .val (.long q3), .second, .val (.int p4), .val (.int p5), .val (.int n), .val (.int vA), .val (.int vB), .val (.int vC), .val (.int (q3.toInt32)), .val (.int (((q3.toUInt64 >>> ((32 : Int32) &&& 0x3f).toInt64.toUInt64).toInt64).toInt32)), .val (.int (p5 &&& (3 : Int32))), .val (.int vC), .val (.ref b43), .unset] [(.int (0 : Int32))]))
        refine ogo (fun t k => XS.ifNo X50.here hx rfl (hb hby at_124) rfl ((if0 _ _).trans (teq (by decide : (0 : Int32) = (0 : Int32))).2) k) ?_
        show OwnEnds _ _ _ _ _ _ _ (T50.setTop (mkF m 127 #[.val (.int p0), .val (.long q1), .second, .val (.int p2), .val (.long q3), .second, .val (.int p4), .val (.int p5), .val (.int n), .val (.int vA), .val (.int vB), .val (.int vC), .val (.int (q3.toInt32)), .val (.int (((q3.toUInt64 >>> ((32 : Int32) &&& 0x3f).toInt64.toUInt64).toInt64).toInt32)), .val (.int (p5 &&& (3 : Int32))), .val (.int vC), .val (.ref b43), .unset] []))
        refine ogo (fun t k => XS.iconst X50.here hx rfl (hb hby at_127) k) ?_
        show OwnEnds _ _ _ _ _ _ _ (T50.setTop (mkF m 128 #[.val (.int p0), .val (.long q1), .second, .val (.int p2), .val (.long q3), .second, .val (.int p4), .val (.int p5), .val (.int n), .val (.int vA), .val (.int vB), .val (.int vC), .val (.int (q3.toInt32)), .val (.int (((q3.toUInt64 >>> ((32 : Int32) &&& 0x3f).toInt64.toUInt64).toInt64).toInt32)), .val (.int (p5 &&& (3 : Int32))), .val (.int vC), .val (.ref b43), .unset] [(.int (1 : Int32))]))
        refine ogo (fun t k => XS.goto X50.here hx rfl (pc0 := 128) (pc' := 132) rfl (hb hby at_128) (by decide) (by decide) k) ?_
        show OwnEnds _ _ _ _ _ _ _ (T50.setTop (mkF m 132 #[.val (.int p0), .val (.long q1), .second, .val (.int p2), .val (.long q3), .second, .val (.int p4), .val (.int p5), .val (.int n), .val (.int vA), .val (.int vB), .val (.int vC), .val (.int (q3.toInt32)), .val (.int (((q3.toUInt64 >>> ((32 : Int32) &&& 0x3f).toInt64.toUInt64).toInt64).toInt32)), .val (.int (p5 &&& (3 : Int32))), .val (.int vC), .val (.ref b43), .unset] [(.int (1 : Int32))]))
        refine ogo (fun t k => XS.istore X50.here hx rfl (hb hby at_132) rfl (l' := #[.val (.int p0), .val (.long q1), .second, .val (.int p2), .val (.long q3), .second, .val (.int p4), .val (.int p5), .val (.int n), .val (.int vA), .val (.int vB), .val (.int vC), .val (.int (q3.toInt32)), .val (.int (((q3.toUInt64 >>> ((32 : Int32) &&& 0x3f).toInt64.toUInt64).toInt64).toInt32)), .val (.int (p5 &&& (3 : Int32))), .val (.int vC), .val (.ref b43), .val (.int (1 : Int32))]) rfl k) ?_
        show OwnEnds _ _ _ _ _ _ _ (T50.setTop (mkF m 134 #[.val (.int p0), .val (.long q1), .second, .val (.int p2), .val (.long q3), .second, .val (.int p4), .val (.int p5), .val (.int n), .val (.int vA), .val (.int vB), .val (.int vC), .val (.int (q3.toInt32)), .val (.int (((q3.toUInt64 >>> ((32 : Int32) &&& 0x3f).toInt64.toUInt64).toInt64).toInt32)), .val (.int (p5 &&& (3 : Int32))), .val (.int vC), .val (.ref b43), .val (.int (1 : Int32))] []))
        refine ogo (fun t k => XS.aload X50.here hx rfl (hb hby at_134) rfl rfl k) ?_
        show OwnEnds _ _ _ _ _ _ _ (T50.setTop (mkF m 136 #[.val (.int p0), .val (.long q1), .second, .val (.int p2), .val (.long q3), .second, .val (.int p4), .val (.int p5), .val (.int n), .val (.int vA), .val (.int vB), .val (.int vC), .val (.int (q3.toInt32)), .val (.int (((q3.toUInt64 >>> ((32 : Int32) &&& 0x3f).toInt64.toUInt64).toInt64).toInt32)), .val (.int (p5 &&& (3 : Int32))), .val (.int vC), .val (.ref b43), .val (.int (1 : Int32))] [(.ref b43)]))
        refine ogo (fun t k => XS.iload X50.here hx rfl (hb hby at_136) rfl k) ?_
        show OwnEnds _ _ _ _ _ _ _ (T50.setTop (mkF m 138 #[.val (.int p0), .val (.long q1), .second, .val (.int p2), .val (.long q3), .second, .val (.int p4), .val (.int p5), .val (.int n), .val (.int vA), .val (.int vB), .val (.int vC), .val (.int (q3.toInt32)), .val (.int (((q3.toUInt64 >>> ((32 : Int32) &&& 0x3f).toInt64.toUInt64).toInt64).toInt32)), .val (.int (p5 &&& (3 : Int32))), .val (.int vC), .val (.ref b43), .val (.int (1 : Int32))] [(.int vA), (.ref b43)]))
        refine ogo (fun t k => XS.iload X50.here hx rfl (hb hby at_138) rfl k) ?_
        show OwnEnds _ _ _ _ _ _ _ (T50.setTop (mkF m 140 #[.val (.int p0), .val (.long q1), .second, .val (.int p2), .val (.long q3), .second, .val (.int p4), .val (.int p5), .val (.int n), .val (.int vA), .val (.int vB), .val (.int vC), .val (.int (q3.toInt32)), .val (.int (((q3.toUInt64 >>> ((32 : Int32) &&& 0x3f).toInt64.toUInt64).toInt64).toInt32)), .val (.int (p5 &&& (3 : Int32))), .val (.int vC), .val (.ref b43), .val (.int (1 : Int32))] [(.int (q3.toInt32)), (.int vA), (.ref b43)]))
        obtain ⟨cq51, kq51, q51a, q51b, q51c⟩ := isOf hZ e50 E49a
        obtain ⟨v51, _, ⟨T51, L51, k51, n51⟩, -, X51, ⟨Lc51, hQ51, l51, y51, z51⟩, st51⟩ := X50.virtualBack hx (y := (⟨"com/example/dispatchwave/dispatchwave/model/VertexLabels", "put", "(II)V"⟩ : MethodName)) (z := (⟨"com/example/dispatchwave/dispatchwave/model/VertexLabels", "put", "(II)V"⟩ : MethodName)) hown (mvT hZ (hw _ (List.mem_of_getElem? (i := 27) rfl))) (mvT hZ (hw _ (List.mem_of_getElem? (i := 28) rfl))) (notFace_of_selects (args := #[]) (mvT hZ (hw _ (List.mem_of_getElem? (i := 30) rfl)))) (mvT hZ (hw _ (List.mem_of_getElem? (i := 30) rfl))) (mvT hZ (hw _ (List.mem_of_getElem? (i := 29) rfl))) (by decide) (backOf (W := 0) (rm50 l Z a0 hw [] b43 vA (q3.toInt32) n (fun _ => 0) T49.heap n0 Z49 OLD49 hL49 hn ivA) hZ (hw _ (List.mem_of_getElem? (i := 31) rfl)) (hw _ (List.mem_of_getElem? (i := 7) rfl)) (by decide) (by decide)) q51a q51c (g := (mkF m 140 #[.val (.int p0), .val (.long q1), .second, .val (.int p2), .val (.long q3), .second, .val (.int p4), .val (.int p5), .val (.int n), .val (.int vA), .val (.int vB), .val (.int vC), .val (.int (q3.toInt32)), .val (.int (((q3.toUInt64 >>> ((32 : Int32) &&& 0x3f).toInt64.toUInt64).toInt64).toInt32)), .val (.int (p5 &&& (3 : Int32))), .val (.int vC), .val (.ref b43), .val (.int (1 : Int32))] [(.int (q3.toInt32)), (.int vA), (.ref b43)])) rfl (by rw [hml]; rfl) (Steps.refl _) (argsL := [(.int vA), (.int (q3.toInt32))]) (rest := []) (lenOf pd__II_V rfl) rfl (by show 2 * 0 + _ ≤ _; exact Nat.le_of_eq rfl) (hb hby at_140) (fun _ _ => ⟨rfl, e50, (by decide : 2 + 1 ≤ _), (by decide : 69 + 192 ≤ _)⟩)
        dsimp only [Pt.U, Pt.locs, Pt.cells, Pt.slots] at X51 l51 y51 z51 st51 hQ51
        subst l51 y51 z51
        obtain ⟨rfl, N51q, OLD51, Z51, hL51⟩ := hQ51
        have N51 := Fr.app N50 N51q
        have E51a := hL51.1.2.1
        refine ogo (fun t k => st51.trans k) ?_
        show OwnEnds _ _ _ _ _ _ _ (T51.setTop (mkF m 143 #[.val (.int p0), .val (.long q1), .second, .val (.int p2), .val (.long q3), .second, .val (.int p4), .val (.int p5), .val (.int n), .val (.int vA), .val (.int vB), .val (.int vC), .val (.int (q3.toInt32)), .val (.int (((q3.toUInt64 >>> ((32 : Int32) &&& 0x3f).toInt64.toUInt64).toInt64).toInt32)), .val (.int (p5 &&& (3 : Int32))), .val (.int vC), .val (.ref b43), .val (.int (1 : Int32))] []))
        refine ogo (fun t k => XS.aload X51.here hx rfl (hb hby at_143) rfl rfl k) ?_
        show OwnEnds _ _ _ _ _ _ _ (T51.setTop (mkF m 145 #[.val (.int p0), .val (.long q1), .second, .val (.int p2), .val (.long q3), .second, .val (.int p4), .val (.int p5), .val (.int n), .val (.int vA), .val (.int vB), .val (.int vC), .val (.int (q3.toInt32)), .val (.int (((q3.toUInt64 >>> ((32 : Int32) &&& 0x3f).toInt64.toUInt64).toInt64).toInt32)), .val (.int (p5 &&& (3 : Int32))), .val (.int vC), .val (.ref b43), .val (.int (1 : Int32))] [(.ref b43)]))
        refine ogo (fun t k => XS.iload X51.here hx rfl (hb hby at_145) rfl k) ?_
        show OwnEnds _ _ _ _ _ _ _ (T51.setTop (mkF m 147 #[.val (.int p0), .val (.long q1), .second, .val (.int p2), .val (.long q3), .second, .val (.int p4), .val (.int p5), .val (.int n), .val (.int vA), .val (.int vB), .val (.int vC), .val (.int (q3.toInt32)), .val (.int (((q3.toUInt64 >>> ((32 : Int32) &&& 0x3f).toInt64.toUInt64).toInt64).toInt32)), .val (.int (p5 &&& (3 : Int32))), .val (.int vC), .val (.ref b43), .val (.int (1 : Int32))] [(.int vB), (.ref b43)]))
        refine ogo (fun t k => XS.iload X51.here hx rfl (hb hby at_147) rfl k) ?_
        show OwnEnds _ _ _ _ _ _ _ (T51.setTop (mkF m 149 #[.val (.int p0), .val (.long q1), .second, .val (.int p2), .val (.long q3), .second, .val (.int p4), .val (.int p5), .val (.int n), .val (.int vA), .val (.int vB), .val (.int vC), .val (.int (q3.toInt32)), .val (.int (((q3.toUInt64 >>> ((32 : Int32) &&& 0x3f).toInt64.toUInt64).toInt64).toInt32)), .val (.int (p5 &&& (3 : Int32))), .val (.int vC), .val (.ref b43), .val (.int (1 : Int32))] [(.int (((q3.toUInt64 >>> ((32 : Int32) &&& 0x3f).toInt64.toUInt64).toInt64).toInt32)), (.int vB), (.ref b43)]))
        obtain ⟨cq52, kq52, q52a, q52b, q52c⟩ := isOf hZ rfl E51a
        obtain ⟨v52, _, ⟨T52, L52, k52, n52⟩, -, X52, ⟨Lc52, hQ52, l52, y52, z52⟩, st52⟩ := X51.virtualBack hx (y := (⟨"com/example/dispatchwave/dispatchwave/model/VertexLabels", "put", "(II)V"⟩ : MethodName)) (z := (⟨"com/example/dispatchwave/dispatchwave/model/VertexLabels", "put", "(II)V"⟩ : MethodName)) hown (mvT hZ (hw _ (List.mem_of_getElem? (i := 27) rfl))) (mvT hZ (hw _ (List.mem_of_getElem? (i := 28) rfl))) (notFace_of_selects (args := #[]) (mvT hZ (hw _ (List.mem_of_getElem? (i := 30) rfl)))) (mvT hZ (hw _ (List.mem_of_getElem? (i := 30) rfl))) (mvT hZ (hw _ (List.mem_of_getElem? (i := 29) rfl))) (by decide) (backOf (W := 0) (rm51 l Z a0 hw [] b43 vB (((q3.toUInt64 >>> ((32 : Int32) &&& 0x3f).toInt64.toUInt64).toInt64).toInt32) n (fupd (fun _ => 0) vA.toInt.toNat (q3.toInt32)) T51.heap n0 Z51 OLD51 hL51 hn ivB) hZ (hw _ (List.mem_of_getElem? (i := 31) rfl)) (hw _ (List.mem_of_getElem? (i := 7) rfl)) (by decide) (by decide)) q52a q52c (g := (mkF m 149 #[.val (.int p0), .val (.long q1), .second, .val (.int p2), .val (.long q3), .second, .val (.int p4), .val (.int p5), .val (.int n), .val (.int vA), .val (.int vB), .val (.int vC), .val (.int (q3.toInt32)), .val (.int (((q3.toUInt64 >>> ((32 : Int32) &&& 0x3f).toInt64.toUInt64).toInt64).toInt32)), .val (.int (p5 &&& (3 : Int32))), .val (.int vC), .val (.ref b43), .val (.int (1 : Int32))] [(.int (((q3.toUInt64 >>> ((32 : Int32) &&& 0x3f).toInt64.toUInt64).toInt64).toInt32)), (.int vB), (.ref b43)])) rfl (by rw [hml]; rfl) (Steps.refl _) (argsL := [(.int vB), (.int (((q3.toUInt64 >>> ((32 : Int32) &&& 0x3f).toInt64.toUInt64).toInt64).toInt32))]) (rest := []) (lenOf pd__II_V rfl) rfl (by show 2 * 0 + _ ≤ _; exact Nat.le_of_eq rfl) (hb hby at_149) (fun _ _ => ⟨rfl, rfl, (by decide : 3 + 1 ≤ _), (by decide : 261 + 448 ≤ _)⟩)
        dsimp only [Pt.U, Pt.locs, Pt.cells, Pt.slots] at X52 l52 y52 z52 st52 hQ52
        subst l52 y52 z52
        obtain ⟨rfl, N52q, OLD52, Z52, hL52⟩ := hQ52
        have N52 := Fr.app N51 N52q
        have E52a := hL52.1.2.1
        refine ogo (fun t k => st52.trans k) ?_
        show OwnEnds _ _ _ _ _ _ _ (T52.setTop (mkF m 152 #[.val (.int p0), .val (.long q1), .second, .val (.int p2), .val (.long q3), .second, .val (.int p4), .val (.int p5), .val (.int n), .val (.int vA), .val (.int vB), .val (.int vC), .val (.int (q3.toInt32)), .val (.int (((q3.toUInt64 >>> ((32 : Int32) &&& 0x3f).toInt64.toUInt64).toInt64).toInt32)), .val (.int (p5 &&& (3 : Int32))), .val (.int vC), .val (.ref b43), .val (.int (1 : Int32))] []))
        refine ogo (fun t k => XS.aload X52.here hx rfl (hb hby at_152) rfl rfl k) ?_
        show OwnEnds _ _ _ _ _ _ _ (T52.setTop (mkF m 154 #[.val (.int p0), .val (.long q1), .second, .val (.int p2), .val (.long q3), .second, .val (.int p4), .val (.int p5), .val (.int n), .val (.int vA), .val (.int vB), .val (.int vC), .val (.int (q3.toInt32)), .val (.int (((q3.toUInt64 >>> ((32 : Int32) &&& 0x3f).toInt64.toUInt64).toInt64).toInt32)), .val (.int (p5 &&& (3 : Int32))), .val (.int vC), .val (.ref b43), .val (.int (1 : Int32))] [(.ref b43)]))
        refine ogo (fun t k => XS.iload X52.here hx rfl (hb hby at_154) rfl k) ?_
        show OwnEnds _ _ _ _ _ _ _ (T52.setTop (mkF m 156 #[.val (.int p0), .val (.long q1), .second, .val (.int p2), .val (.long q3), .second, .val (.int p4), .val (.int p5), .val (.int n), .val (.int vA), .val (.int vB), .val (.int vC), .val (.int (q3.toInt32)), .val (.int (((q3.toUInt64 >>> ((32 : Int32) &&& 0x3f).toInt64.toUInt64).toInt64).toInt32)), .val (.int (p5 &&& (3 : Int32))), .val (.int vC), .val (.ref b43), .val (.int (1 : Int32))] [(.int vC), (.ref b43)]))
        refine ogo (fun t k => XS.iload X52.here hx rfl (hb hby at_156) rfl k) ?_
        show OwnEnds _ _ _ _ _ _ _ (T52.setTop (mkF m 158 #[.val (.int p0), .val (.long q1), .second, .val (.int p2), .val (.long q3), .second, .val (.int p4), .val (.int p5), .val (.int n), .val (.int vA), .val (.int vB), .val (.int vC), .val (.int (q3.toInt32)), .val (.int (((q3.toUInt64 >>> ((32 : Int32) &&& 0x3f).toInt64.toUInt64).toInt64).toInt32)), .val (.int (p5 &&& (3 : Int32))), .val (.int vC), .val (.ref b43), .val (.int (1 : Int32))] [(.int p4), (.int vC), (.ref b43)]))
        obtain ⟨cq53, kq53, q53a, q53b, q53c⟩ := isOf hZ rfl E52a
        obtain ⟨v53, _, ⟨T53, L53, k53, n53⟩, -, X53, ⟨Lc53, hQ53, l53, y53, z53⟩, st53⟩ := X52.virtualBack hx (y := (⟨"com/example/dispatchwave/dispatchwave/model/VertexLabels", "put", "(II)V"⟩ : MethodName)) (z := (⟨"com/example/dispatchwave/dispatchwave/model/VertexLabels", "put", "(II)V"⟩ : MethodName)) hown (mvT hZ (hw _ (List.mem_of_getElem? (i := 27) rfl))) (mvT hZ (hw _ (List.mem_of_getElem? (i := 28) rfl))) (notFace_of_selects (args := #[]) (mvT hZ (hw _ (List.mem_of_getElem? (i := 30) rfl)))) (mvT hZ (hw _ (List.mem_of_getElem? (i := 30) rfl))) (mvT hZ (hw _ (List.mem_of_getElem? (i := 29) rfl))) (by decide) (backOf (W := 0) (rm52 l Z a0 hw [] b43 vC p4 n (fupd (fupd (fun _ => 0) vA.toInt.toNat (q3.toInt32)) vB.toInt.toNat (((q3.toUInt64 >>> ((32 : Int32) &&& 0x3f).toInt64.toUInt64).toInt64).toInt32)) T52.heap n0 Z52 OLD52 hL52 hn ivC) hZ (hw _ (List.mem_of_getElem? (i := 31) rfl)) (hw _ (List.mem_of_getElem? (i := 7) rfl)) (by decide) (by decide)) q53a q53c (g := (mkF m 158 #[.val (.int p0), .val (.long q1), .second, .val (.int p2), .val (.long q3), .second, .val (.int p4), .val (.int p5), .val (.int n), .val (.int vA), .val (.int vB), .val (.int vC), .val (.int (q3.toInt32)), .val (.int (((q3.toUInt64 >>> ((32 : Int32) &&& 0x3f).toInt64.toUInt64).toInt64).toInt32)), .val (.int (p5 &&& (3 : Int32))), .val (.int vC), .val (.ref b43), .val (.int (1 : Int32))] [(.int p4), (.int vC), (.ref b43)])) rfl (by rw [hml]; rfl) (Steps.refl _) (argsL := [(.int vC), (.int p4)]) (rest := []) (lenOf pd__II_V rfl) rfl (by show 2 * 0 + _ ≤ _; exact Nat.le_of_eq rfl) (hb hby at_158) (fun _ _ => ⟨rfl, rfl, (by decide : 4 + 1 ≤ _), (by decide : 709 + 704 ≤ _)⟩)
        dsimp only [Pt.U, Pt.locs, Pt.cells, Pt.slots] at X53 l53 y53 z53 st53 hQ53
        subst l53 y53 z53
        obtain ⟨rfl, N53q, OLD53, Z53, hL53⟩ := hQ53
        have N53 := Fr.app N52 N53q
        have E53a := hL53.1.2.1
        refine ogo (fun t k => st53.trans k) ?_
        show OwnEnds _ _ _ _ _ _ _ (T53.setTop (mkF m 161 #[.val (.int p0), .val (.long q1), .second, .val (.int p2), .val (.long q3), .second, .val (.int p4), .val (.int p5), .val (.int n), .val (.int vA), .val (.int vB), .val (.int vC), .val (.int (q3.toInt32)), .val (.int (((q3.toUInt64 >>> ((32 : Int32) &&& 0x3f).toInt64.toUInt64).toInt64).toInt32)), .val (.int (p5 &&& (3 : Int32))), .val (.int vC), .val (.ref b43), .val (.int (1 : Int32))] []))
        refine ogo (fun t k => XS.iload X53.here hx rfl (hb hby at_161) rfl k) ?_
        show OwnEnds _ _ _ _ _ _ _ (T53.setTop (mkF m 163 #[.val (.int p0), .val (.long q1), .second, .val (.int p2), .val (.long q3), .second, .val (.int p4), .val (.int p5), .val (.int n), .val (.int vA), .val (.int vB), .val (.int vC), .val (.int (q3.toInt32)), .val (.int (((q3.toUInt64 >>> ((32 : Int32) &&& 0x3f).toInt64.toUInt64).toInt64).toInt32)), .val (.int (p5 &&& (3 : Int32))), .val (.int vC), .val (.ref b43), .val (.int (1 : Int32))] [(.int (1 : Int32))]))
        refine ogo (fun t k => XS.ifNo X53.here hx rfl (hb hby at_163) rfl ((if0 _ _).trans (feq (by decide : ¬ ((1 : Int32) = (0 : Int32)))).1) k) ?_
        show OwnEnds _ _ _ _ _ _ _ (T53.setTop (mkF m 166 #[.val (.int p0), .val (.long q1), .second, .val (.int p2), .val (.long q3), .second, .val (.int p4), .val (.int p5), .val (.int n), .val (.int vA), .val (.int vB), .val (.int vC), .val (.int (q3.toInt32)), .val (.int (((q3.toUInt64 >>> ((32 : Int32) &&& 0x3f).toInt64.toUInt64).toInt64).toInt32)), .val (.int (p5 &&& (3 : Int32))), .val (.int vC), .val (.ref b43), .val (.int (1 : Int32))] []))
        refine ogo (fun t k => XS.aload X53.here hx rfl (hb hby at_166) rfl rfl k) ?_
        show OwnEnds _ _ _ _ _ _ _ (T53.setTop (mkF m 168 #[.val (.int p0), .val (.long q1), .second, .val (.int p2), .val (.long q3), .second, .val (.int p4), .val (.int p5), .val (.int n), .val (.int vA), .val (.int vB), .val (.int vC), .val (.int (q3.toInt32)), .val (.int (((q3.toUInt64 >>> ((32 : Int32) &&& 0x3f).toInt64.toUInt64).toInt64).toInt32)), .val (.int (p5 &&& (3 : Int32))), .val (.int vC), .val (.ref b43), .val (.int (1 : Int32))] [(.ref b43)]))
        refine ogo (fun t k => XS.iload X53.here hx rfl (hb hby at_168) rfl k) ?_
        show OwnEnds _ _ _ _ _ _ _ (T53.setTop (mkF m 170 #[.val (.int p0), .val (.long q1), .second, .val (.int p2), .val (.long q3), .second, .val (.int p4), .val (.int p5), .val (.int n), .val (.int vA), .val (.int vB), .val (.int vC), .val (.int (q3.toInt32)), .val (.int (((q3.toUInt64 >>> ((32 : Int32) &&& 0x3f).toInt64.toUInt64).toInt64).toInt32)), .val (.int (p5 &&& (3 : Int32))), .val (.int vC), .val (.ref b43), .val (.int (1 : Int32))] [(.int vA), (.ref b43)]))
        obtain ⟨cq54, kq54, q54a, q54b, q54c⟩ := isOf hZ rfl E53a
        obtain ⟨v54, _, ⟨T54, L54, k54, n54⟩, -, X54, ⟨Lc54, hQ54, l54, y54, z54⟩, st54⟩ := X53.virtualBack hx (y := (⟨"com/example/dispatchwave/dispatchwave/model/VertexLabels", "get", "(I)I"⟩ : MethodName)) (z := (⟨"com/example/dispatchwave/dispatchwave/model/VertexLabels", "get", "(I)I"⟩ : MethodName)) hown (mvT hZ (hw _ (List.mem_of_getElem? (i := 20) rfl))) (mvT hZ (hw _ (List.mem_of_getElem? (i := 21) rfl))) (notFace_of_selects (args := #[]) (mvT hZ (hw _ (List.mem_of_getElem? (i := 23) rfl)))) (mvT hZ (hw _ (List.mem_of_getElem? (i := 23) rfl))) (mvT hZ (hw _ (List.mem_of_getElem? (i := 22) rfl))) (by decide) (backOf (W := 0) (rm2 l Z a0 hw [] b43 vA n (fupd (fupd (fupd (fun _ => 0) vA.toInt.toNat (q3.toInt32)) vB.toInt.toNat (((q3.toUInt64 >>> ((32 : Int32) &&& 0x3f).toInt64.toUInt64).toInt64).toInt32)) vC.toInt.toNat p4) _ T53.heap n0 Z53 hL53 hn ivA) hZ (hw _ (List.mem_of_getElem? (i := 24) rfl)) (hw _ (List.mem_of_getElem? (i := 7) rfl)) (by decide) (by decide)) q54a q54c (g := (mkF m 170 #[.val (.int p0), .val (.long q1), .second, .val (.int p2), .val (.long q3), .second, .val (.int p4), .val (.int p5), .val (.int n), .val (.int vA), .val (.int vB), .val (.int vC), .val (.int (q3.toInt32)), .val (.int (((q3.toUInt64 >>> ((32 : Int32) &&& 0x3f).toInt64.toUInt64).toInt64).toInt32)), .val (.int (p5 &&& (3 : Int32))), .val (.int vC), .val (.ref b43), .val (.int (1 : Int32))] [(.int vA), (.ref b43)])) rfl (by rw [hml]; rfl) (Steps.refl _) (argsL := [(.int vA)]) (rest := []) (lenOf pd__I_I rfl) rfl (by show 2 * 0 + _ ≤ _; exact Nat.le_of_eq rfl) (hb hby at_170) (fun _ _ => ⟨rfl, rfl, (by decide : 5 + 0 ≤ _), (by decide : 1413 + 0 ≤ _)⟩)
        dsimp only [Pt.U, Pt.locs, Pt.cells, Pt.slots] at X54 l54 y54 z54 st54 hQ54
        subst l54 y54 z54
        obtain ⟨hv54, N54q, e54⟩ := hQ54
        obtain rfl : v54 = some (.int (own_exp vA vA (q3.toInt32) vB (((q3.toUInt64 >>> ((32 : Int32) &&& 0x3f).toInt64.toUInt64).toInt64).toInt32) vC p4)) := hv54.trans (by rw [own_fin ivA ivA ivB ivC])
        have N54 := Fr.app N53 N54q
        refine ogo (fun t k => st54.trans k) ?_
        show OwnEnds _ _ _ _ _ _ _ (T54.setTop (mkF m 173 #[.val (.int p0), .val (.long q1), .second, .val (.int p2), .val (.long q3), .second, .val (.int p4), .val (.int p5), .val (.int n), .val (.int vA), .val (.int vB), .val (.int vC), .val (.int (q3.toInt32)), .val (.int (((q3.toUInt64 >>> ((32 : Int32) &&& 0x3f).toInt64.toUInt64).toInt64).toInt32)), .val (.int (p5 &&& (3 : Int32))), .val (.int vC), .val (.ref b43), .val (.int (1 : Int32))] [(.int (own_exp vA vA (q3.toInt32) vB (((q3.toUInt64 >>> ((32 : Int32) &&& 0x3f).toInt64.toUInt64).toInt64).toInt32) vC p4))]))
        refine ogo (fun t k => XS.iload X54.here hx rfl (hb hby at_173) rfl k) ?_
        show OwnEnds _ _ _ _ _ _ _ (T54.setTop (mkF m 175 #[.val (.int p0), .val (.long q1), .second, .val (.int p2), .val (.long q3), .second, .val (.int p4), .val (.int p5), .val (.int n), .val (.int vA), .val (.int vB), .val (.int vC), .val (.int (q3.toInt32)), .val (.int (((q3.toUInt64 >>> ((32 : Int32) &&& 0x3f).toInt64.toUInt64).toInt64).toInt32)), .val (.int (p5 &&& (3 : Int32))), .val (.int vC), .val (.ref b43), .val (.int (1 : Int32))] [(.int vA), (.int (own_exp vA vA (q3.toInt32) vB (((q3.toUInt64 >>> ((32 : Int32) &&& 0x3f).toInt64.toUInt64).toInt64).toInt32) vC p4))]))
        refine ogo (fun t k => XS.iload X54.here hx rfl (hb hby at_175) rfl k) ?_
        show OwnEnds _ _ _ _ _ _ _ (T54.setTop (mkF m 177 #[.val (.int p0), .val (.long q1), .second, .val (.int p2), .val (.long q3), .second, .val (.int p4), .val (.int p5), .val (.int n), .val (.int vA), .val (.int vB), .val (.int vC), .val (.int (q3.toInt32)), .val (.int (((q3.toUInt64 >>> ((32 : Int32) &&& 0x3f).toInt64.toUInt64).toInt64).toInt32)), .val (.int (p5 &&& (3 : Int32))), .val (.int vC), .val (.ref b43), .val (.int (1 : Int32))] [(.int vA), (.int vA), (.int (own_exp vA vA (q3.toInt32) vB (((q3.toUInt64 >>> ((32 : Int32) &&& 0x3f).toInt64.toUInt64).toInt64).toInt32) vC p4))]))
        refine ogo (fun t k => XS.iload X54.here hx rfl (hb hby at_177) rfl k) ?_
        show OwnEnds _ _ _ _ _ _ _ (T54.setTop (mkF m 179 #[.val (.int p0), .val (.long q1), .second, .val (.int p2), .val (.long q3), .second, .val (.int p4), .val (.int p5), .val (.int n), .val (.int vA), .val (.int vB), .val (.int vC), .val (.int (q3.toInt32)), .val (.int (((q3.toUInt64 >>> ((32 : Int32) &&& 0x3f).toInt64.toUInt64).toInt64).toInt32)), .val (.int (p5 &&& (3 : Int32))), .val (.int vC), .val (.ref b43), .val (.int (1 : Int32))] [(.int (q3.toInt32)), (.int vA), (.int vA), (.int (own_exp vA vA (q3.toInt32) vB (((q3.toUInt64 >>> ((32 : Int32) &&& 0x3f).toInt64.toUInt64).toInt64).toInt32) vC p4))]))
        refine ogo (fun t k => XS.iload X54.here hx rfl (hb hby at_179) rfl k) ?_
        show OwnEnds _ _ _ _ _ _ _ (T54.setTop (mkF m 181 #[.val (.int p0), .val (.long q1), .second, .val (.int p2), .val (.long q3), .second, .val (.int p4), .val (.int p5), .val (.int n), .val (.int vA), .val (.int vB), .val (.int vC), .val (.int (q3.toInt32)), .val (.int (((q3.toUInt64 >>> ((32 : Int32) &&& 0x3f).toInt64.toUInt64).toInt64).toInt32)), .val (.int (p5 &&& (3 : Int32))), .val (.int vC), .val (.ref b43), .val (.int (1 : Int32))] [(.int vB), (.int (q3.toInt32)), (.int vA), (.int vA), (.int (own_exp vA vA (q3.toInt32) vB (((q3.toUInt64 >>> ((32 : Int32) &&& 0x3f).toInt64.toUInt64).toInt64).toInt32) vC p4))]))
        refine ogo (fun t k => XS.iload X54.here hx rfl (hb hby at_181) rfl k) ?_
        show OwnEnds _ _ _ _ _ _ _ (T54.setTop (mkF m 183 #[.val (.int p0), .val (.long q1), .second, .val (.int p2), .val (.long q3), .second, .val (.int p4), .val (.int p5), .val (.int n), .val (.int vA), .val (.int vB), .val (.int vC), .val (.int (q3.toInt32)), .val (.int (((q3.toUInt64 >>> ((32 : Int32) &&& 0x3f).toInt64.toUInt64).toInt64).toInt32)), .val (.int (p5 &&& (3 : Int32))), .val (.int vC), .val (.ref b43), .val (.int (1 : Int32))] [(.int (((q3.toUInt64 >>> ((32 : Int32) &&& 0x3f).toInt64.toUInt64).toInt64).toInt32)), (.int vB), (.int (q3.toInt32)), (.int vA), (.int vA), (.int (own_exp vA vA (q3.toInt32) vB (((q3.toUInt64 >>> ((32 : Int32) &&& 0x3f).toInt64.toUInt64).toInt64).toInt32) vC p4))]))
        refine ogo (fun t k => XS.iload X54.here hx rfl (hb hby at_183) rfl k) ?_
        show OwnEnds _ _ _ _ _ _ _ (T54.setTop (mkF m 185 #[.val (.int p0), .val (.long q1), .second, .val (.int p2), .val (.long q3), .second, .val (.int p4), .val (.int p5), .val (.int n), .val (.int vA), .val (.int vB), .val (.int vC), .val (.int (q3.toInt32)), .val (.int (((q3.toUInt64 >>> ((32 : Int32) &&& 0x3f).toInt64.toUInt64).toInt64).toInt32)), .val (.int (p5 &&& (3 : Int32))), .val (.int vC), .val (.ref b43), .val (.int (1 : Int32))] [(.int vC), (.int (((q3.toUInt64 >>> ((32 : Int32) &&& 0x3f).toInt64.toUInt64).toInt64).toInt32)), (.int vB), (.int (q3.toInt32)), (.int vA), (.int vA), (.int (own_exp vA vA (q3.toInt32) vB (((q3.toUInt64 >>> ((32 : Int32) &&& 0x3f).toInt64.toUInt64).toInt64).toInt32) vC p4))]))
        refine ogo (fun t k => XS.iload X54.here hx rfl (hb hby at_185) rfl k) ?_
        show OwnEnds _ _ _ _ _ _ _ (T54.setTop (mkF m 187 #[.val (.int p0), .val (.long q1), .second, .val (.int p2), .val (.long q3), .second, .val (.int p4), .val (.int p5), .val (.int n), .val (.int vA), .val (.int vB), .val (.int vC), .val (.int (q3.toInt32)), .val (.int (((q3.toUInt64 >>> ((32 : Int32) &&& 0x3f).toInt64.toUInt64).toInt64).toInt32)), .val (.int (p5 &&& (3 : Int32))), .val (.int vC), .val (.ref b43), .val (.int (1 : Int32))] [(.int p4), (.int vC), (.int (((q3.toUInt64 >>> ((32 : Int32) &&& 0x3f).toInt64.toUInt64).toInt64).toInt32)), (.int vB), (.int (q3.toInt32)), (.int vA), (.int vA), (.int (own_exp vA vA (q3.toInt32) vB (((q3.toUInt64 >>> ((32 : Int32) &&& 0x3f).toInt64.toUInt64).toInt64).toInt32) vC p4))]))
        obtain ⟨v55, _, ⟨T55, L55, k55, n55⟩, -, X55, ⟨Lc55, hQ55, l55, y55, z55⟩, st55⟩ := Jvm.LawKit.callS X54 hx (y := (⟨"com/example/dispatchwave/dispatchwave/model/VertexLabelsGetPinLaw", "expected", "(IIIIIII)I"⟩ : MethodName)) hown (mvT hZ (hw _ (List.mem_of_getElem? (i := 40) rfl))) (mvT hZ (hw _ (List.mem_of_getElem? (i := 41) rfl))) (mvT hZ (hw _ (List.mem_of_getElem? (i := 2) rfl))) (mvT hZ (hw _ (List.mem_of_getElem? (i := 42) rfl))) (by decide) (backOf (W := 1) (rm7 l Z a0 hw [] vA vA (q3.toInt32) vB (((q3.toUInt64 >>> ((32 : Int32) &&& 0x3f).toInt64.toUInt64).toInt64).toInt32) vC p4 T53.heap n0 Z53 ) hZ (hw _ (List.mem_of_getElem? (i := 42) rfl)) (hw _ (List.mem_of_getElem? (i := 2) rfl)) (by decide) (by decide)) (g := (mkF m 187 #[.val (.int p0), .val (.long q1), .second, .val (.int p2), .val (.long q3), .second, .val (.int p4), .val (.int p5), .val (.int n), .val (.int vA), .val (.int vB), .val (.int vC), .val (.int (q3.toInt32)), .val (.int (((q3.toUInt64 >>> ((32 : Int32) &&& 0x3f).toInt64.toUInt64).toInt64).toInt32)), .val (.int (p5 &&& (3 : Int32))), .val (.int vC), .val (.ref b43), .val (.int (1 : Int32))] [(.int p4), (.int vC), (.int (((q3.toUInt64 >>> ((32 : Int32) &&& 0x3f).toInt64.toUInt64).toInt64).toInt32)), (.int vB), (.int (q3.toInt32)), (.int vA), (.int vA), (.int (own_exp vA vA (q3.toInt32) vB (((q3.toUInt64 >>> ((32 : Int32) &&& 0x3f).toInt64.toUInt64).toInt64).toInt32) vC p4))])) rfl (by rw [hml]; rfl) (argsL := [(.int vA), (.int vA), (.int (q3.toInt32)), (.int vB), (.int (((q3.toUInt64 >>> ((32 : Int32) &&& 0x3f).toInt64.toUInt64).toInt64).toInt32)), (.int vC), (.int p4)]) (rest := [(.int (own_exp vA vA (q3.toInt32) vB (((q3.toUInt64 >>> ((32 : Int32) &&& 0x3f).toInt64.toUInt64).toInt64).toInt32) vC p4))]) (lenOf pd__IIIIIII_I rfl) rfl (by show 2 * 0 + _ ≤ _; exact Nat.le_of_eq rfl) (hb hby at_187) (fun _ _ => ⟨rfl, e54, (by decide : 5 + 0 ≤ _), (by decide : 1413 + 0 ≤ _)⟩)
        dsimp only [Pt.U, Pt.locs, Pt.cells, Pt.slots] at X55 l55 y55 z55 st55 hQ55
        subst l55 y55 z55
        obtain ⟨rfl, N55q, e55⟩ := hQ55
        have N55 := Fr.app N54 N55q
        refine ogo (fun t k => st55 t k) ?_
        show OwnEnds _ _ _ _ _ _ _ (T55.setTop (mkF m 190 #[.val (.int p0), .val (.long q1), .second, .val (.int p2), .val (.long q3), .second, .val (.int p4), .val (.int p5), .val (.int n), .val (.int vA), .val (.int vB), .val (.int vC), .val (.int (q3.toInt32)), .val (.int (((q3.toUInt64 >>> ((32 : Int32) &&& 0x3f).toInt64.toUInt64).toInt64).toInt32)), .val (.int (p5 &&& (3 : Int32))), .val (.int vC), .val (.ref b43), .val (.int (1 : Int32))] [(.int (own_exp vA vA (q3.toInt32) vB (((q3.toUInt64 >>> ((32 : Int32) &&& 0x3f).toInt64.toUInt64).toInt64).toInt32) vC p4)), (.int (own_exp vA vA (q3.toInt32) vB (((q3.toUInt64 >>> ((32 : Int32) &&& 0x3f).toInt64.toUInt64).toInt64).toInt32) vC p4))]))
        refine ogo (fun t k => XS.icmpNo X55.here hx rfl (hb hby at_190) rfl (teq (rfl : (own_exp vA vA (q3.toInt32) vB (((q3.toUInt64 >>> ((32 : Int32) &&& 0x3f).toInt64.toUInt64).toInt64).toInt32) vC p4) = (own_exp vA vA (q3.toInt32) vB (((q3.toUInt64 >>> ((32 : Int32) &&& 0x3f).toInt64.toUInt64).toInt64).toInt32) vC p4))).2 k) ?_
        show OwnEnds _ _ _ _ _ _ _ (T55.setTop (mkF m 193 #[.val (.int p0), .val (.long q1), .second, .val (.int p2), .val (.long q3), .second, .val (.int p4), .val (.int p5), .val (.int n), .val (.int vA), .val (.int vB), .val (.int vC), .val (.int (q3.toInt32)), .val (.int (((q3.toUInt64 >>> ((32 : Int32) &&& 0x3f).toInt64.toUInt64).toInt64).toInt32)), .val (.int (p5 &&& (3 : Int32))), .val (.int vC), .val (.ref b43), .val (.int (1 : Int32))] []))
        refine ogo (fun t k => XS.iconst X55.here hx rfl (hb hby at_193) k) ?_
        show OwnEnds _ _ _ _ _ _ _ (T55.setTop (mkF m 194 #[.val (.int p0), .val (.long q1), .second, .val (.int p2), .val (.long q3), .second, .val (.int p4), .val (.int p5), .val (.int n), .val (.int vA), .val (.int vB), .val (.int vC), .val (.int (q3.toInt32)), .val (.int (((q3.toUInt64 >>> ((32 : Int32) &&& 0x3f).toInt64.toUInt64).toInt64).toInt32)), .val (.int (p5 &&& (3 : Int32))), .val (.int vC), .val (.ref b43), .val (.int (1 : Int32))] [(.int (1 : Int32))]))
        refine ogo (fun t k => XS.goto X55.here hx rfl (pc0 := 194) (pc' := 198) rfl (hb hby at_194) (by decide) (by decide) k) ?_
        show OwnEnds _ _ _ _ _ _ _ (T55.setTop (mkF m 198 #[.val (.int p0), .val (.long q1), .second, .val (.int p2), .val (.long q3), .second, .val (.int p4), .val (.int p5), .val (.int n), .val (.int vA), .val (.int vB), .val (.int vC), .val (.int (q3.toInt32)), .val (.int (((q3.toUInt64 >>> ((32 : Int32) &&& 0x3f).toInt64.toUInt64).toInt64).toInt32)), .val (.int (p5 &&& (3 : Int32))), .val (.int vC), .val (.ref b43), .val (.int (1 : Int32))] [(.int (1 : Int32))]))
        refine ogo (fun t k => XS.istore X55.here hx rfl (hb hby at_198) rfl (l' := #[.val (.int p0), .val (.long q1), .second, .val (.int p2), .val (.long q3), .second, .val (.int p4), .val (.int p5), .val (.int n), .val (.int vA), .val (.int vB), .val (.int vC), .val (.int (q3.toInt32)), .val (.int (((q3.toUInt64 >>> ((32 : Int32) &&& 0x3f).toInt64.toUInt64).toInt64).toInt32)), .val (.int (p5 &&& (3 : Int32))), .val (.int vC), .val (.ref b43), .val (.int (1 : Int32))]) rfl k) ?_
        show OwnEnds _ _ _ _ _ _ _ (T55.setTop (mkF m 200 #[.val (.int p0), .val (.long q1), .second, .val (.int p2), .val (.long q3), .second, .val (.int p4), .val (.int p5), .val (.int n), .val (.int vA), .val (.int vB), .val (.int vC), .val (.int (q3.toInt32)), .val (.int (((q3.toUInt64 >>> ((32 : Int32) &&& 0x3f).toInt64.toUInt64).toInt64).toInt32)), .val (.int (p5 &&& (3 : Int32))), .val (.int vC), .val (.ref b43), .val (.int (1 : Int32))] []))
        refine ogo (fun t k => XS.iload X55.here hx rfl (hb hby at_200) rfl k) ?_
        show OwnEnds _ _ _ _ _ _ _ (T55.setTop (mkF m 202 #[.val (.int p0), .val (.long q1), .second, .val (.int p2), .val (.long q3), .second, .val (.int p4), .val (.int p5), .val (.int n), .val (.int vA), .val (.int vB), .val (.int vC), .val (.int (q3.toInt32)), .val (.int (((q3.toUInt64 >>> ((32 : Int32) &&& 0x3f).toInt64.toUInt64).toInt64).toInt32)), .val (.int (p5 &&& (3 : Int32))), .val (.int vC), .val (.ref b43), .val (.int (1 : Int32))] [(.int (1 : Int32))]))
        refine ogo (fun t k => XS.ifNo X55.here hx rfl (hb hby at_202) rfl ((if0 _ _).trans (feq (by decide : ¬ ((1 : Int32) = (0 : Int32)))).1) k) ?_
        show OwnEnds _ _ _ _ _ _ _ (T55.setTop (mkF m 205 #[.val (.int p0), .val (.long q1), .second, .val (.int p2), .val (.long q3), .second, .val (.int p4), .val (.int p5), .val (.int n), .val (.int vA), .val (.int vB), .val (.int vC), .val (.int (q3.toInt32)), .val (.int (((q3.toUInt64 >>> ((32 : Int32) &&& 0x3f).toInt64.toUInt64).toInt64).toInt32)), .val (.int (p5 &&& (3 : Int32))), .val (.int vC), .val (.ref b43), .val (.int (1 : Int32))] []))
        refine ogo (fun t k => XS.aload X55.here hx rfl (hb hby at_205) rfl rfl k) ?_
        show OwnEnds _ _ _ _ _ _ _ (T55.setTop (mkF m 207 #[.val (.int p0), .val (.long q1), .second, .val (.int p2), .val (.long q3), .second, .val (.int p4), .val (.int p5), .val (.int n), .val (.int vA), .val (.int vB), .val (.int vC), .val (.int (q3.toInt32)), .val (.int (((q3.toUInt64 >>> ((32 : Int32) &&& 0x3f).toInt64.toUInt64).toInt64).toInt32)), .val (.int (p5 &&& (3 : Int32))), .val (.int vC), .val (.ref b43), .val (.int (1 : Int32))] [(.ref b43)]))
        refine ogo (fun t k => XS.iload X55.here hx rfl (hb hby at_207) rfl k) ?_
        show OwnEnds _ _ _ _ _ _ _ (T55.setTop (mkF m 209 #[.val (.int p0), .val (.long q1), .second, .val (.int p2), .val (.long q3), .second, .val (.int p4), .val (.int p5), .val (.int n), .val (.int vA), .val (.int vB), .val (.int vC), .val (.int (q3.toInt32)), .val (.int (((q3.toUInt64 >>> ((32 : Int32) &&& 0x3f).toInt64.toUInt64).toInt64).toInt32)), .val (.int (p5 &&& (3 : Int32))), .val (.int vC), .val (.ref b43), .val (.int (1 : Int32))] [(.int vB), (.ref b43)]))
        obtain ⟨cq56, kq56, q56a, q56b, q56c⟩ := isOf hZ e55 E53a
        obtain ⟨v56, _, ⟨T56, L56, k56, n56⟩, -, X56, ⟨Lc56, hQ56, l56, y56, z56⟩, st56⟩ := X55.virtualBack hx (y := (⟨"com/example/dispatchwave/dispatchwave/model/VertexLabels", "get", "(I)I"⟩ : MethodName)) (z := (⟨"com/example/dispatchwave/dispatchwave/model/VertexLabels", "get", "(I)I"⟩ : MethodName)) hown (mvT hZ (hw _ (List.mem_of_getElem? (i := 20) rfl))) (mvT hZ (hw _ (List.mem_of_getElem? (i := 21) rfl))) (notFace_of_selects (args := #[]) (mvT hZ (hw _ (List.mem_of_getElem? (i := 23) rfl)))) (mvT hZ (hw _ (List.mem_of_getElem? (i := 23) rfl))) (mvT hZ (hw _ (List.mem_of_getElem? (i := 22) rfl))) (by decide) (backOf (W := 0) (rm2 l Z a0 hw [] b43 vB n (fupd (fupd (fupd (fun _ => 0) vA.toInt.toNat (q3.toInt32)) vB.toInt.toNat (((q3.toUInt64 >>> ((32 : Int32) &&& 0x3f).toInt64.toUInt64).toInt64).toInt32)) vC.toInt.toNat p4) _ T53.heap n0 Z53 hL53 hn ivB) hZ (hw _ (List.mem_of_getElem? (i := 24) rfl)) (hw _ (List.mem_of_getElem? (i := 7) rfl)) (by decide) (by decide)) q56a q56c (g := (mkF m 209 #[.val (.int p0), .val (.long q1), .second, .val (.int p2), .val (.long q3), .second, .val (.int p4), .val (.int p5), .val (.int n), .val (.int vA), .val (.int vB), .val (.int vC), .val (.int (q3.toInt32)), .val (.int (((q3.toUInt64 >>> ((32 : Int32) &&& 0x3f).toInt64.toUInt64).toInt64).toInt32)), .val (.int (p5 &&& (3 : Int32))), .val (.int vC), .val (.ref b43), .val (.int (1 : Int32))] [(.int vB), (.ref b43)])) rfl (by rw [hml]; rfl) (Steps.refl _) (argsL := [(.int vB)]) (rest := []) (lenOf pd__I_I rfl) rfl (by show 2 * 0 + _ ≤ _; exact Nat.le_of_eq rfl) (hb hby at_209) (fun _ _ => ⟨rfl, e55, (by decide : 5 + 0 ≤ _), (by decide : 1413 + 0 ≤ _)⟩)
        dsimp only [Pt.U, Pt.locs, Pt.cells, Pt.slots] at X56 l56 y56 z56 st56 hQ56
        subst l56 y56 z56
        obtain ⟨hv56, N56q, e56⟩ := hQ56
        obtain rfl : v56 = some (.int (own_exp vB vA (q3.toInt32) vB (((q3.toUInt64 >>> ((32 : Int32) &&& 0x3f).toInt64.toUInt64).toInt64).toInt32) vC p4)) := hv56.trans (by rw [own_fin ivB ivA ivB ivC])
        have N56 := Fr.app N55 N56q
        refine ogo (fun t k => st56.trans k) ?_
        show OwnEnds _ _ _ _ _ _ _ (T56.setTop (mkF m 212 #[.val (.int p0), .val (.long q1), .second, .val (.int p2), .val (.long q3), .second, .val (.int p4), .val (.int p5), .val (.int n), .val (.int vA), .val (.int vB), .val (.int vC), .val (.int (q3.toInt32)), .val (.int (((q3.toUInt64 >>> ((32 : Int32) &&& 0x3f).toInt64.toUInt64).toInt64).toInt32)), .val (.int (p5 &&& (3 : Int32))), .val (.int vC), .val (.ref b43), .val (.int (1 : Int32))] [(.int (own_exp vB vA (q3.toInt32) vB (((q3.toUInt64 >>> ((32 : Int32) &&& 0x3f).toInt64.toUInt64).toInt64).toInt32) vC p4))]))
        refine ogo (fun t k => XS.iload X56.here hx rfl (hb hby at_212) rfl k) ?_
        show OwnEnds _ _ _ _ _ _ _ (T56.setTop (mkF m 214 #[.val (.int p0), .val (.long q1), .second, .val (.int p2), .val (.long q3), .second, .val (.int p4), .val (.int p5), .val (.int n), .val (.int vA), .val (.int vB), .val (.int vC), .val (.int (q3.toInt32)), .val (.int (((q3.toUInt64 >>> ((32 : Int32) &&& 0x3f).toInt64.toUInt64).toInt64).toInt32)), .val (.int (p5 &&& (3 : Int32))), .val (.int vC), .val (.ref b43), .val (.int (1 : Int32))] [(.int vB), (.int (own_exp vB vA (q3.toInt32) vB (((q3.toUInt64 >>> ((32 : Int32) &&& 0x3f).toInt64.toUInt64).toInt64).toInt32) vC p4))]))
        refine ogo (fun t k => XS.iload X56.here hx rfl (hb hby at_214) rfl k) ?_
        show OwnEnds _ _ _ _ _ _ _ (T56.setTop (mkF m 216 #[.val (.int p0), .val (.long q1), .second, .val (.int p2), .val (.long q3), .second, .val (.int p4), .val (.int p5), .val (.int n), .val (.int vA), .val (.int vB), .val (.int vC), .val (.int (q3.toInt32)), .val (.int (((q3.toUInt64 >>> ((32 : Int32) &&& 0x3f).toInt64.toUInt64).toInt64).toInt32)), .val (.int (p5 &&& (3 : Int32))), .val (.int vC), .val (.ref b43), .val (.int (1 : Int32))] [(.int vA), (.int vB), (.int (own_exp vB vA (q3.toInt32) vB (((q3.toUInt64 >>> ((32 : Int32) &&& 0x3f).toInt64.toUInt64).toInt64).toInt32) vC p4))]))
        refine ogo (fun t k => XS.iload X56.here hx rfl (hb hby at_216) rfl k) ?_
        show OwnEnds _ _ _ _ _ _ _ (T56.setTop (mkF m 218 #[.val (.int p0), .val (.long q1), .second, .val (.int p2), .val (.long q3), .second, .val (.int p4), .val (.int p5), .val (.int n), .val (.int vA), .val (.int vB), .val (.int vC), .val (.int (q3.toInt32)), .val (.int (((q3.toUInt64 >>> ((32 : Int32) &&& 0x3f).toInt64.toUInt64).toInt64).toInt32)), .val (.int (p5 &&& (3 : Int32))), .val (.int vC), .val (.ref b43), .val (.int (1 : Int32))] [(.int (q3.toInt32)), (.int vA), (.int vB), (.int (own_exp vB vA (q3.toInt32) vB (((q3.toUInt64 >>> ((32 : Int32) &&& 0x3f).toInt64.toUInt64).toInt64).toInt32) vC p4))]))
        refine ogo (fun t k => XS.iload X56.here hx rfl (hb hby at_218) rfl k) ?_
        show OwnEnds _ _ _ _ _ _ _ (T56.setTop (mkF m 220 #[.val (.int p0), .val (.long q1), .second, .val (.int p2), .val (.long q3), .second, .val (.int p4), .val (.int p5), .val (.int n), .val (.int vA), .val (.int vB), .val (.int vC), .val (.int (q3.toInt32)), .val (.int (((q3.toUInt64 >>> ((32 : Int32) &&& 0x3f).toInt64.toUInt64).toInt64).toInt32)), .val (.int (p5 &&& (3 : Int32))), .val (.int vC), .val (.ref b43), .val (.int (1 : Int32))] [(.int vB), (.int (q3.toInt32)), (.int vA), (.int vB), (.int (own_exp vB vA (q3.toInt32) vB (((q3.toUInt64 >>> ((32 : Int32) &&& 0x3f).toInt64.toUInt64).toInt64).toInt32) vC p4))]))
        refine ogo (fun t k => XS.iload X56.here hx rfl (hb hby at_220) rfl k) ?_
        show OwnEnds _ _ _ _ _ _ _ (T56.setTop (mkF m 222 #[.val (.int p0), .val (.long q1), .second, .val (.int p2), .val (.long q3), .second, .val (.int p4), .val (.int p5), .val (.int n), .val (.int vA), .val (.int vB), .val (.int vC), .val (.int (q3.toInt32)), .val (.int (((q3.toUInt64 >>> ((32 : Int32) &&& 0x3f).toInt64.toUInt64).toInt64).toInt32)), .val (.int (p5 &&& (3 : Int32))), .val (.int vC), .val (.ref b43), .val (.int (1 : Int32))] [(.int (((q3.toUInt64 >>> ((32 : Int32) &&& 0x3f).toInt64.toUInt64).toInt64).toInt32)), (.int vB), (.int (q3.toInt32)), (.int vA), (.int vB), (.int (own_exp vB vA (q3.toInt32) vB (((q3.toUInt64 >>> ((32 : Int32) &&& 0x3f).toInt64.toUInt64).toInt64).toInt32) vC p4))]))
        refine ogo (fun t k => XS.iload X56.here hx rfl (hb hby at_222) rfl k) ?_
        show OwnEnds _ _ _ _ _ _ _ (T56.setTop (mkF m 224 #[.val (.int p0), .val (.long q1), .second, .val (.int p2), .val (.long q3), .second, .val (.int p4), .val (.int p5), .val (.int n), .val (.int vA), .val (.int vB), .val (.int vC), .val (.int (q3.toInt32)), .val (.int (((q3.toUInt64 >>> ((32 : Int32) &&& 0x3f).toInt64.toUInt64).toInt64).toInt32)), .val (.int (p5 &&& (3 : Int32))), .val (.int vC), .val (.ref b43), .val (.int (1 : Int32))] [(.int vC), (.int (((q3.toUInt64 >>> ((32 : Int32) &&& 0x3f).toInt64.toUInt64).toInt64).toInt32)), (.int vB), (.int (q3.toInt32)), (.int vA), (.int vB), (.int (own_exp vB vA (q3.toInt32) vB (((q3.toUInt64 >>> ((32 : Int32) &&& 0x3f).toInt64.toUInt64).toInt64).toInt32) vC p4))]))
        refine ogo (fun t k => XS.iload X56.here hx rfl (hb hby at_224) rfl k) ?_
        show OwnEnds _ _ _ _ _ _ _ (T56.setTop (mkF m 226 #[.val (.int p0), .val (.long q1), .second, .val (.int p2), .val (.long q3), .second, .val (.int p4), .val (.int p5), .val (.int n), .val (.int vA), .val (.int vB), .val (.int vC), .val (.int (q3.toInt32)), .val (.int (((q3.toUInt64 >>> ((32 : Int32) &&& 0x3f).toInt64.toUInt64).toInt64).toInt32)), .val (.int (p5 &&& (3 : Int32))), .val (.int vC), .val (.ref b43), .val (.int (1 : Int32))] [(.int p4), (.int vC), (.int (((q3.toUInt64 >>> ((32 : Int32) &&& 0x3f).toInt64.toUInt64).toInt64).toInt32)), (.int vB), (.int (q3.toInt32)), (.int vA), (.int vB), (.int (own_exp vB vA (q3.toInt32) vB (((q3.toUInt64 >>> ((32 : Int32) &&& 0x3f).toInt64.toUInt64).toInt64).toInt32) vC p4))]))
        obtain ⟨v57, _, ⟨T57, L57, k57, n57⟩, -, X57, ⟨Lc57, hQ57, l57, y57, z57⟩, st57⟩ := Jvm.LawKit.callS X56 hx (y := (⟨"com/example/dispatchwave/dispatchwave/model/VertexLabelsGetPinLaw", "expected", "(IIIIIII)I"⟩ : MethodName)) hown (mvT hZ (hw _ (List.mem_of_getElem? (i := 40) rfl))) (mvT hZ (hw _ (List.mem_of_getElem? (i := 41) rfl))) (mvT hZ (hw _ (List.mem_of_getElem? (i := 2) rfl))) (mvT hZ (hw _ (List.mem_of_getElem? (i := 42) rfl))) (by decide) (backOf (W := 1) (rm7 l Z a0 hw [] vB vA (q3.toInt32) vB (((q3.toUInt64 >>> ((32 : Int32) &&& 0x3f).toInt64.toUInt64).toInt64).toInt32) vC p4 T53.heap n0 Z53 ) hZ (hw _ (List.mem_of_getElem? (i := 42) rfl)) (hw _ (List.mem_of_getElem? (i := 2) rfl)) (by decide) (by decide)) (g := (mkF m 226 #[.val (.int p0), .val (.long q1), .second, .val (.int p2), .val (.long q3), .second, .val (.int p4), .val (.int p5), .val (.int n), .val (.int vA), .val (.int vB), .val (.int vC), .val (.int (q3.toInt32)), .val (.int (((q3.toUInt64 >>> ((32 : Int32) &&& 0x3f).toInt64.toUInt64).toInt64).toInt32)), .val (.int (p5 &&& (3 : Int32))), .val (.int vC), .val (.ref b43), .val (.int (1 : Int32))] [(.int p4), (.int vC), (.int (((q3.toUInt64 >>> ((32 : Int32) &&& 0x3f).toInt64.toUInt64).toInt64).toInt32)), (.int vB), (.int (q3.toInt32)), (.int vA), (.int vB), (.int (own_exp vB vA (q3.toInt32) vB (((q3.toUInt64 >>> ((32 : Int32) &&& 0x3f).toInt64.toUInt64).toInt64).toInt32) vC p4))])) rfl (by rw [hml]; rfl) (argsL := [(.int vB), (.int vA), (.int (q3.toInt32)), (.int vB), (.int (((q3.toUInt64 >>> ((32 : Int32) &&& 0x3f).toInt64.toUInt64).toInt64).toInt32)), (.int vC), (.int p4)]) (rest := [(.int (own_exp vB vA (q3.toInt32) vB (((q3.toUInt64 >>> ((32 : Int32) &&& 0x3f).toInt64.toUInt64).toInt64).toInt32) vC p4))]) (lenOf pd__IIIIIII_I rfl) rfl (by show 2 * 0 + _ ≤ _; exact Nat.le_of_eq rfl) (hb hby at_226) (fun _ _ => ⟨rfl, e56, (by decide : 5 + 0 ≤ _), (by decide : 1413 + 0 ≤ _)⟩)
        dsimp only [Pt.U, Pt.locs, Pt.cells, Pt.slots] at X57 l57 y57 z57 st57 hQ57
        subst l57 y57 z57
        obtain ⟨rfl, N57q, e57⟩ := hQ57
        have N57 := Fr.app N56 N57q
        refine ogo (fun t k => st57 t k) ?_
        show OwnEnds _ _ _ _ _ _ _ (T57.setTop (mkF m 229 #[.val (.int p0), .val (.long q1), .second, .val (.int p2), .val (.long q3), .second, .val (.int p4), .val (.int p5), .val (.int n), .val (.int vA), .val (.int vB), .val (.int vC), .val (.int (q3.toInt32)), .val (.int (((q3.toUInt64 >>> ((32 : Int32) &&& 0x3f).toInt64.toUInt64).toInt64).toInt32)), .val (.int (p5 &&& (3 : Int32))), .val (.int vC), .val (.ref b43), .val (.int (1 : Int32))] [(.int (own_exp vB vA (q3.toInt32) vB (((q3.toUInt64 >>> ((32 : Int32) &&& 0x3f).toInt64.toUInt64).toInt64).toInt32) vC p4)), (.int (own_exp vB vA (q3.toInt32) vB (((q3.toUInt64 >>> ((32 : Int32) &&& 0x3f).toInt64.toUInt64).toInt64).toInt32) vC p4))]))
        refine ogo (fun t k => XS.icmpNo X57.here hx rfl (hb hby at_229) rfl (teq (rfl : (own_exp vB vA (q3.toInt32) vB (((q3.toUInt64 >>> ((32 : Int32) &&& 0x3f).toInt64.toUInt64).toInt64).toInt32) vC p4) = (own_exp vB vA (q3.toInt32) vB (((q3.toUInt64 >>> ((32 : Int32) &&& 0x3f).toInt64.toUInt64).toInt64).toInt32) vC p4))).2 k) ?_
        show OwnEnds _ _ _ _ _ _ _ (T57.setTop (mkF m 232 #[.val (.int p0), .val (.long q1), .second, .val (.int p2), .val (.long q3), .second, .val (.int p4), .val (.int p5), .val (.int n), .val (.int vA), .val (.int vB), .val (.int vC), .val (.int (q3.toInt32)), .val (.int (((q3.toUInt64 >>> ((32 : Int32) &&& 0x3f).toInt64.toUInt64).toInt64).toInt32)), .val (.int (p5 &&& (3 : Int32))), .val (.int vC), .val (.ref b43), .val (.int (1 : Int32))] []))
        refine ogo (fun t k => XS.iconst X57.here hx rfl (hb hby at_232) k) ?_
        show OwnEnds _ _ _ _ _ _ _ (T57.setTop (mkF m 233 #[.val (.int p0), .val (.long q1), .second, .val (.int p2), .val (.long q3), .second, .val (.int p4), .val (.int p5), .val (.int n), .val (.int vA), .val (.int vB), .val (.int vC), .val (.int (q3.toInt32)), .val (.int (((q3.toUInt64 >>> ((32 : Int32) &&& 0x3f).toInt64.toUInt64).toInt64).toInt32)), .val (.int (p5 &&& (3 : Int32))), .val (.int vC), .val (.ref b43), .val (.int (1 : Int32))] [(.int (1 : Int32))]))
        refine ogo (fun t k => XS.goto X57.here hx rfl (pc0 := 233) (pc' := 237) rfl (hb hby at_233) (by decide) (by decide) k) ?_
        show OwnEnds _ _ _ _ _ _ _ (T57.setTop (mkF m 237 #[.val (.int p0), .val (.long q1), .second, .val (.int p2), .val (.long q3), .second, .val (.int p4), .val (.int p5), .val (.int n), .val (.int vA), .val (.int vB), .val (.int vC), .val (.int (q3.toInt32)), .val (.int (((q3.toUInt64 >>> ((32 : Int32) &&& 0x3f).toInt64.toUInt64).toInt64).toInt32)), .val (.int (p5 &&& (3 : Int32))), .val (.int vC), .val (.ref b43), .val (.int (1 : Int32))] [(.int (1 : Int32))]))
        refine ogo (fun t k => XS.istore X57.here hx rfl (hb hby at_237) rfl (l' := #[.val (.int p0), .val (.long q1), .second, .val (.int p2), .val (.long q3), .second, .val (.int p4), .val (.int p5), .val (.int n), .val (.int vA), .val (.int vB), .val (.int vC), .val (.int (q3.toInt32)), .val (.int (((q3.toUInt64 >>> ((32 : Int32) &&& 0x3f).toInt64.toUInt64).toInt64).toInt32)), .val (.int (p5 &&& (3 : Int32))), .val (.int vC), .val (.ref b43), .val (.int (1 : Int32))]) rfl k) ?_
        show OwnEnds _ _ _ _ _ _ _ (T57.setTop (mkF m 239 #[.val (.int p0), .val (.long q1), .second, .val (.int p2), .val (.long q3), .second, .val (.int p4), .val (.int p5), .val (.int n), .val (.int vA), .val (.int vB), .val (.int vC), .val (.int (q3.toInt32)), .val (.int (((q3.toUInt64 >>> ((32 : Int32) &&& 0x3f).toInt64.toUInt64).toInt64).toInt32)), .val (.int (p5 &&& (3 : Int32))), .val (.int vC), .val (.ref b43), .val (.int (1 : Int32))] []))
        refine ogo (fun t k => XS.iload X57.here hx rfl (hb hby at_239) rfl k) ?_
        show OwnEnds _ _ _ _ _ _ _ (T57.setTop (mkF m 241 #[.val (.int p0), .val (.long q1), .second, .val (.int p2), .val (.long q3), .second, .val (.int p4), .val (.int p5), .val (.int n), .val (.int vA), .val (.int vB), .val (.int vC), .val (.int (q3.toInt32)), .val (.int (((q3.toUInt64 >>> ((32 : Int32) &&& 0x3f).toInt64.toUInt64).toInt64).toInt32)), .val (.int (p5 &&& (3 : Int32))), .val (.int vC), .val (.ref b43), .val (.int (1 : Int32))] [(.int (1 : Int32))]))
        refine ogo (fun t k => XS.ifNo X57.here hx rfl (hb hby at_241) rfl ((if0 _ _).trans (feq (by decide : ¬ ((1 : Int32) = (0 : Int32)))).1) k) ?_
        show OwnEnds _ _ _ _ _ _ _ (T57.setTop (mkF m 244 #[.val (.int p0), .val (.long q1), .second, .val (.int p2), .val (.long q3), .second, .val (.int p4), .val (.int p5), .val (.int n), .val (.int vA), .val (.int vB), .val (.int vC), .val (.int (q3.toInt32)), .val (.int (((q3.toUInt64 >>> ((32 : Int32) &&& 0x3f).toInt64.toUInt64).toInt64).toInt32)), .val (.int (p5 &&& (3 : Int32))), .val (.int vC), .val (.ref b43), .val (.int (1 : Int32))] []))
        refine ogo (fun t k => XS.aload X57.here hx rfl (hb hby at_244) rfl rfl k) ?_
        show OwnEnds _ _ _ _ _ _ _ (T57.setTop (mkF m 246 #[.val (.int p0), .val (.long q1), .second, .val (.int p2), .val (.long q3), .second, .val (.int p4), .val (.int p5), .val (.int n), .val (.int vA), .val (.int vB), .val (.int vC), .val (.int (q3.toInt32)), .val (.int (((q3.toUInt64 >>> ((32 : Int32) &&& 0x3f).toInt64.toUInt64).toInt64).toInt32)), .val (.int (p5 &&& (3 : Int32))), .val (.int vC), .val (.ref b43), .val (.int (1 : Int32))] [(.ref b43)]))
        refine ogo (fun t k => XS.iload X57.here hx rfl (hb hby at_246) rfl k) ?_
        show OwnEnds _ _ _ _ _ _ _ (T57.setTop (mkF m 248 #[.val (.int p0), .val (.long q1), .second, .val (.int p2), .val (.long q3), .second, .val (.int p4), .val (.int p5), .val (.int n), .val (.int vA), .val (.int vB), .val (.int vC), .val (.int (q3.toInt32)), .val (.int (((q3.toUInt64 >>> ((32 : Int32) &&& 0x3f).toInt64.toUInt64).toInt64).toInt32)), .val (.int (p5 &&& (3 : Int32))), .val (.int vC), .val (.ref b43), .val (.int (1 : Int32))] [(.int vC), (.ref b43)]))
        obtain ⟨cq58, kq58, q58a, q58b, q58c⟩ := isOf hZ e57 E53a
        obtain ⟨v58, _, ⟨T58, L58, k58, n58⟩, -, X58, ⟨Lc58, hQ58, l58, y58, z58⟩, st58⟩ := X57.virtualBack hx (y := (⟨"com/example/dispatchwave/dispatchwave/model/VertexLabels", "get", "(I)I"⟩ : MethodName)) (z := (⟨"com/example/dispatchwave/dispatchwave/model/VertexLabels", "get", "(I)I"⟩ : MethodName)) hown (mvT hZ (hw _ (List.mem_of_getElem? (i := 20) rfl))) (mvT hZ (hw _ (List.mem_of_getElem? (i := 21) rfl))) (notFace_of_selects (args := #[]) (mvT hZ (hw _ (List.mem_of_getElem? (i := 23) rfl)))) (mvT hZ (hw _ (List.mem_of_getElem? (i := 23) rfl))) (mvT hZ (hw _ (List.mem_of_getElem? (i := 22) rfl))) (by decide) (backOf (W := 0) (rm2 l Z a0 hw [] b43 vC n (fupd (fupd (fupd (fun _ => 0) vA.toInt.toNat (q3.toInt32)) vB.toInt.toNat (((q3.toUInt64 >>> ((32 : Int32) &&& 0x3f).toInt64.toUInt64).toInt64).toInt32)) vC.toInt.toNat p4) _ T53.heap n0 Z53 hL53 hn ivC) hZ (hw _ (List.mem_of_getElem? (i := 24) rfl)) (hw _ (List.mem_of_getElem? (i := 7) rfl)) (by decide) (by decide)) q58a q58c (g := (mkF m 248 #[.val (.int p0), .val (.long q1), .second, .val (.int p2), .val (.long q3), .second, .val (.int p4), .val (.int p5), .val (.int n), .val (.int vA), .val (.int vB), .val (.int vC), .val (.int (q3.toInt32)), .val (.int (((q3.toUInt64 >>> ((32 : Int32) &&& 0x3f).toInt64.toUInt64).toInt64).toInt32)), .val (.int (p5 &&& (3 : Int32))), .val (.int vC), .val (.ref b43), .val (.int (1 : Int32))] [(.int vC), (.ref b43)])) rfl (by rw [hml]; rfl) (Steps.refl _) (argsL := [(.int vC)]) (rest := []) (lenOf pd__I_I rfl) rfl (by show 2 * 0 + _ ≤ _; exact Nat.le_of_eq rfl) (hb hby at_248) (fun _ _ => ⟨rfl, e57, (by decide : 5 + 0 ≤ _), (by decide : 1413 + 0 ≤ _)⟩)
        dsimp only [Pt.U, Pt.locs, Pt.cells, Pt.slots] at X58 l58 y58 z58 st58 hQ58
        subst l58 y58 z58
        obtain ⟨hv58, N58q, e58⟩ := hQ58
        obtain rfl : v58 = some (.int p4) := hv58.trans (by rw [own_fin3])
        have N58 := Fr.app N57 N58q
        refine ogo (fun t k => st58.trans k) ?_
        show OwnEnds _ _ _ _ _ _ _ (T58.setTop (mkF m 251 #[.val (.int p0), .val (.long q1), .second, .val (.int p2), .val (.long q3), .second, .val (.int p4), .val (.int p5), .val (.int n), .val (.int vA), .val (.int vB), .val (.int vC), .val (.int (q3.toInt32)), .val (.int (((q3.toUInt64 >>> ((32 : Int32) &&& 0x3f).toInt64.toUInt64).toInt64).toInt32)), .val (.int (p5 &&& (3 : Int32))), .val (.int vC), .val (.ref b43), .val (.int (1 : Int32))] [(.int p4)]))
        refine ogo (fun t k => XS.iload X58.here hx rfl (hb hby at_251) rfl k) ?_
        show OwnEnds _ _ _ _ _ _ _ (T58.setTop (mkF m 253 #[.val (.int p0), .val (.long q1), .second, .val (.int p2), .val (.long q3), .second, .val (.int p4), .val (.int p5), .val (.int n), .val (.int vA), .val (.int vB), .val (.int vC), .val (.int (q3.toInt32)), .val (.int (((q3.toUInt64 >>> ((32 : Int32) &&& 0x3f).toInt64.toUInt64).toInt64).toInt32)), .val (.int (p5 &&& (3 : Int32))), .val (.int vC), .val (.ref b43), .val (.int (1 : Int32))] [(.int p4), (.int p4)]))
        refine ogo (fun t k => XS.icmpNo X58.here hx rfl (hb hby at_253) rfl (teq (rfl : p4 = p4)).2 k) ?_
        show OwnEnds _ _ _ _ _ _ _ (T58.setTop (mkF m 256 #[.val (.int p0), .val (.long q1), .second, .val (.int p2), .val (.long q3), .second, .val (.int p4), .val (.int p5), .val (.int n), .val (.int vA), .val (.int vB), .val (.int vC), .val (.int (q3.toInt32)), .val (.int (((q3.toUInt64 >>> ((32 : Int32) &&& 0x3f).toInt64.toUInt64).toInt64).toInt32)), .val (.int (p5 &&& (3 : Int32))), .val (.int vC), .val (.ref b43), .val (.int (1 : Int32))] []))
        refine ogo (fun t k => XS.iconst X58.here hx rfl (hb hby at_256) k) ?_
        show OwnEnds _ _ _ _ _ _ _ (T58.setTop (mkF m 257 #[.val (.int p0), .val (.long q1), .second, .val (.int p2), .val (.long q3), .second, .val (.int p4), .val (.int p5), .val (.int n), .val (.int vA), .val (.int vB), .val (.int vC), .val (.int (q3.toInt32)), .val (.int (((q3.toUInt64 >>> ((32 : Int32) &&& 0x3f).toInt64.toUInt64).toInt64).toInt32)), .val (.int (p5 &&& (3 : Int32))), .val (.int vC), .val (.ref b43), .val (.int (1 : Int32))] [(.int (1 : Int32))]))
        refine ogo (fun t k => XS.goto X58.here hx rfl (pc0 := 257) (pc' := 261) rfl (hb hby at_257) (by decide) (by decide) k) ?_
        show OwnEnds _ _ _ _ _ _ _ (T58.setTop (mkF m 261 #[.val (.int p0), .val (.long q1), .second, .val (.int p2), .val (.long q3), .second, .val (.int p4), .val (.int p5), .val (.int n), .val (.int vA), .val (.int vB), .val (.int vC), .val (.int (q3.toInt32)), .val (.int (((q3.toUInt64 >>> ((32 : Int32) &&& 0x3f).toInt64.toUInt64).toInt64).toInt32)), .val (.int (p5 &&& (3 : Int32))), .val (.int vC), .val (.ref b43), .val (.int (1 : Int32))] [(.int (1 : Int32))]))
        refine ogo (fun t k => XS.istore X58.here hx rfl (hb hby at_261) rfl (l' := #[.val (.int p0), .val (.long q1), .second, .val (.int p2), .val (.long q3), .second, .val (.int p4), .val (.int p5), .val (.int n), .val (.int vA), .val (.int vB), .val (.int vC), .val (.int (q3.toInt32)), .val (.int (((q3.toUInt64 >>> ((32 : Int32) &&& 0x3f).toInt64.toUInt64).toInt64).toInt32)), .val (.int (p5 &&& (3 : Int32))), .val (.int vC), .val (.ref b43), .val (.int (1 : Int32))]) rfl k) ?_
        show OwnEnds _ _ _ _ _ _ _ (T58.setTop (mkF m 263 #[.val (.int p0), .val (.long q1), .second, .val (.int p2), .val (.long q3), .second, .val (.int p4), .val (.int p5), .val (.int n), .val (.int vA), .val (.int vB), .val (.int vC), .val (.int (q3.toInt32)), .val (.int (((q3.toUInt64 >>> ((32 : Int32) &&& 0x3f).toInt64.toUInt64).toInt64).toInt32)), .val (.int (p5 &&& (3 : Int32))), .val (.int vC), .val (.ref b43), .val (.int (1 : Int32))] []))
        refine ogo (fun t k => XS.iload X58.here hx rfl (hb hby at_263) rfl k) ?_
        show OwnEnds _ _ _ _ _ _ _ (T58.setTop (mkF m 265 #[.val (.int p0), .val (.long q1), .second, .val (.int p2), .val (.long q3), .second, .val (.int p4), .val (.int p5), .val (.int n), .val (.int vA), .val (.int vB), .val (.int vC), .val (.int (q3.toInt32)), .val (.int (((q3.toUInt64 >>> ((32 : Int32) &&& 0x3f).toInt64.toUInt64).toInt64).toInt32)), .val (.int (p5 &&& (3 : Int32))), .val (.int vC), .val (.ref b43), .val (.int (1 : Int32))] [(.int (1 : Int32))]))
        refine ogo (fun t k => XS.ifNo X58.here hx rfl (hb hby at_265) rfl ((if0 _ _).trans (feq (by decide : ¬ ((1 : Int32) = (0 : Int32)))).1) k) ?_
        show OwnEnds _ _ _ _ _ _ _ (T58.setTop (mkF m 268 #[.val (.int p0), .val (.long q1), .second, .val (.int p2), .val (.long q3), .second, .val (.int p4), .val (.int p5), .val (.int n), .val (.int vA), .val (.int vB), .val (.int vC), .val (.int (q3.toInt32)), .val (.int (((q3.toUInt64 >>> ((32 : Int32) &&& 0x3f).toInt64.toUInt64).toInt64).toInt32)), .val (.int (p5 &&& (3 : Int32))), .val (.int vC), .val (.ref b43), .val (.int (1 : Int32))] []))
        refine ogo (fun t k => XS.aload X58.here hx rfl (hb hby at_268) rfl rfl k) ?_
        show OwnEnds _ _ _ _ _ _ _ (T58.setTop (mkF m 270 #[.val (.int p0), .val (.long q1), .second, .val (.int p2), .val (.long q3), .second, .val (.int p4), .val (.int p5), .val (.int n), .val (.int vA), .val (.int vB), .val (.int vC), .val (.int (q3.toInt32)), .val (.int (((q3.toUInt64 >>> ((32 : Int32) &&& 0x3f).toInt64.toUInt64).toInt64).toInt32)), .val (.int (p5 &&& (3 : Int32))), .val (.int vC), .val (.ref b43), .val (.int (1 : Int32))] [(.ref b43)]))
        refine ogo (fun t k => XS.iload X58.here hx rfl (hb hby at_270) rfl k) ?_
        show OwnEnds _ _ _ _ _ _ _ (T58.setTop (mkF m 272 #[.val (.int p0), .val (.long q1), .second, .val (.int p2), .val (.long q3), .second, .val (.int p4), .val (.int p5), .val (.int n), .val (.int vA), .val (.int vB), .val (.int vC), .val (.int (q3.toInt32)), .val (.int (((q3.toUInt64 >>> ((32 : Int32) &&& 0x3f).toInt64.toUInt64).toInt64).toInt32)), .val (.int (p5 &&& (3 : Int32))), .val (.int vC), .val (.ref b43), .val (.int (1 : Int32))] [(.int vC), (.ref b43)]))
        obtain ⟨cq59, kq59, q59a, q59b, q59c⟩ := isOf hZ e58 E53a
        obtain ⟨v59, _, ⟨T59, L59, k59, n59⟩, -, X59, ⟨Lc59, hQ59, l59, y59, z59⟩, st59⟩ := X58.virtualBack hx (y := (⟨"com/example/dispatchwave/dispatchwave/model/VertexLabels", "get", "(I)I"⟩ : MethodName)) (z := (⟨"com/example/dispatchwave/dispatchwave/model/VertexLabels", "get", "(I)I"⟩ : MethodName)) hown (mvT hZ (hw _ (List.mem_of_getElem? (i := 20) rfl))) (mvT hZ (hw _ (List.mem_of_getElem? (i := 21) rfl))) (notFace_of_selects (args := #[]) (mvT hZ (hw _ (List.mem_of_getElem? (i := 23) rfl)))) (mvT hZ (hw _ (List.mem_of_getElem? (i := 23) rfl))) (mvT hZ (hw _ (List.mem_of_getElem? (i := 22) rfl))) (by decide) (backOf (W := 0) (rm2 l Z a0 hw [] b43 vC n (fupd (fupd (fupd (fun _ => 0) vA.toInt.toNat (q3.toInt32)) vB.toInt.toNat (((q3.toUInt64 >>> ((32 : Int32) &&& 0x3f).toInt64.toUInt64).toInt64).toInt32)) vC.toInt.toNat p4) _ T53.heap n0 Z53 hL53 hn ivC) hZ (hw _ (List.mem_of_getElem? (i := 24) rfl)) (hw _ (List.mem_of_getElem? (i := 7) rfl)) (by decide) (by decide)) q59a q59c (g := (mkF m 272 #[.val (.int p0), .val (.long q1), .second, .val (.int p2), .val (.long q3), .second, .val (.int p4), .val (.int p5), .val (.int n), .val (.int vA), .val (.int vB), .val (.int vC), .val (.int (q3.toInt32)), .val (.int (((q3.toUInt64 >>> ((32 : Int32) &&& 0x3f).toInt64.toUInt64).toInt64).toInt32)), .val (.int (p5 &&& (3 : Int32))), .val (.int vC), .val (.ref b43), .val (.int (1 : Int32))] [(.int vC), (.ref b43)])) rfl (by rw [hml]; rfl) (Steps.refl _) (argsL := [(.int vC)]) (rest := []) (lenOf pd__I_I rfl) rfl (by show 2 * 0 + _ ≤ _; exact Nat.le_of_eq rfl) (hb hby at_272) (fun _ _ => ⟨rfl, e58, (by decide : 5 + 0 ≤ _), (by decide : 1413 + 0 ≤ _)⟩)
        dsimp only [Pt.U, Pt.locs, Pt.cells, Pt.slots] at X59 l59 y59 z59 st59 hQ59
        subst l59 y59 z59
        obtain ⟨hv59, N59q, e59⟩ := hQ59
        obtain rfl : v59 = some (.int (own_exp vC vA (q3.toInt32) vB (((q3.toUInt64 >>> ((32 : Int32) &&& 0x3f).toInt64.toUInt64).toInt64).toInt32) vC p4)) := hv59.trans (by rw [own_fin ivC ivA ivB ivC])
        have N59 := Fr.app N58 N59q
        refine ogo (fun t k => st59.trans k) ?_
        show OwnEnds _ _ _ _ _ _ _ (T59.setTop (mkF m 275 #[.val (.int p0), .val (.long q1), .second, .val (.int p2), .val (.long q3), .second, .val (.int p4), .val (.int p5), .val (.int n), .val (.int vA), .val (.int vB), .val (.int vC), .val (.int (q3.toInt32)), .val (.int (((q3.toUInt64 >>> ((32 : Int32) &&& 0x3f).toInt64.toUInt64).toInt64).toInt32)), .val (.int (p5 &&& (3 : Int32))), .val (.int vC), .val (.ref b43), .val (.int (1 : Int32))] [(.int (own_exp vC vA (q3.toInt32) vB (((q3.toUInt64 >>> ((32 : Int32) &&& 0x3f).toInt64.toUInt64).toInt64).toInt32) vC p4))]))
        refine ogo (fun t k => XS.iload X59.here hx rfl (hb hby at_275) rfl k) ?_
        show OwnEnds _ _ _ _ _ _ _ (T59.setTop (mkF m 277 #[.val (.int p0), .val (.long q1), .second, .val (.int p2), .val (.long q3), .second, .val (.int p4), .val (.int p5), .val (.int n), .val (.int vA), .val (.int vB), .val (.int vC), .val (.int (q3.toInt32)), .val (.int (((q3.toUInt64 >>> ((32 : Int32) &&& 0x3f).toInt64.toUInt64).toInt64).toInt32)), .val (.int (p5 &&& (3 : Int32))), .val (.int vC), .val (.ref b43), .val (.int (1 : Int32))] [(.int vC), (.int (own_exp vC vA (q3.toInt32) vB (((q3.toUInt64 >>> ((32 : Int32) &&& 0x3f).toInt64.toUInt64).toInt64).toInt32) vC p4))]))
        refine ogo (fun t k => XS.iload X59.here hx rfl (hb hby at_277) rfl k) ?_
        show OwnEnds _ _ _ _ _ _ _ (T59.setTop (mkF m 279 #[.val (.int p0), .val (.long q1), .second, .val (.int p2), .val (.long q3), .second, .val (.int p4), .val (.int p5), .val (.int n), .val (.int vA), .val (.int vB), .val (.int vC), .val (.int (q3.toInt32)), .val (.int (((q3.toUInt64 >>> ((32 : Int32) &&& 0x3f).toInt64.toUInt64).toInt64).toInt32)), .val (.int (p5 &&& (3 : Int32))), .val (.int vC), .val (.ref b43), .val (.int (1 : Int32))] [(.int vA), (.int vC), (.int (own_exp vC vA (q3.toInt32) vB (((q3.toUInt64 >>> ((32 : Int32) &&& 0x3f).toInt64.toUInt64).toInt64).toInt32) vC p4))]))
        refine ogo (fun t k => XS.iload X59.here hx rfl (hb hby at_279) rfl k) ?_
        show OwnEnds _ _ _ _ _ _ _ (T59.setTop (mkF m 281 #[.val (.int p0), .val (.long q1), .second, .val (.int p2), .val (.long q3), .second, .val (.int p4), .val (.int p5), .val (.int n), .val (.int vA), .val (.int vB), .val (.int vC), .val (.int (q3.toInt32)), .val (.int (((q3.toUInt64 >>> ((32 : Int32) &&& 0x3f).toInt64.toUInt64).toInt64).toInt32)), .val (.int (p5 &&& (3 : Int32))), .val (.int vC), .val (.ref b43), .val (.int (1 : Int32))] [(.int (q3.toInt32)), (.int vA), (.int vC), (.int (own_exp vC vA (q3.toInt32) vB (((q3.toUInt64 >>> ((32 : Int32) &&& 0x3f).toInt64.toUInt64).toInt64).toInt32) vC p4))]))
        refine ogo (fun t k => XS.iload X59.here hx rfl (hb hby at_281) rfl k) ?_
        show OwnEnds _ _ _ _ _ _ _ (T59.setTop (mkF m 283 #[.val (.int p0), .val (.long q1), .second, .val (.int p2), .val (.long q3), .second, .val (.int p4), .val (.int p5), .val (.int n), .val (.int vA), .val (.int vB), .val (.int vC), .val (.int (q3.toInt32)), .val (.int (((q3.toUInt64 >>> ((32 : Int32) &&& 0x3f).toInt64.toUInt64).toInt64).toInt32)), .val (.int (p5 &&& (3 : Int32))), .val (.int vC), .val (.ref b43), .val (.int (1 : Int32))] [(.int vB), (.int (q3.toInt32)), (.int vA), (.int vC), (.int (own_exp vC vA (q3.toInt32) vB (((q3.toUInt64 >>> ((32 : Int32) &&& 0x3f).toInt64.toUInt64).toInt64).toInt32) vC p4))]))
        refine ogo (fun t k => XS.iload X59.here hx rfl (hb hby at_283) rfl k) ?_
        show OwnEnds _ _ _ _ _ _ _ (T59.setTop (mkF m 285 #[.val (.int p0), .val (.long q1), .second, .val (.int p2), .val (.long q3), .second, .val (.int p4), .val (.int p5), .val (.int n), .val (.int vA), .val (.int vB), .val (.int vC), .val (.int (q3.toInt32)), .val (.int (((q3.toUInt64 >>> ((32 : Int32) &&& 0x3f).toInt64.toUInt64).toInt64).toInt32)), .val (.int (p5 &&& (3 : Int32))), .val (.int vC), .val (.ref b43), .val (.int (1 : Int32))] [(.int (((q3.toUInt64 >>> ((32 : Int32) &&& 0x3f).toInt64.toUInt64).toInt64).toInt32)), (.int vB), (.int (q3.toInt32)), (.int vA), (.int vC), (.int (own_exp vC vA (q3.toInt32) vB (((q3.toUInt64 >>> ((32 : Int32) &&& 0x3f).toInt64.toUInt64).toInt64).toInt32) vC p4))]))
        refine ogo (fun t k => XS.iload X59.here hx rfl (hb hby at_285) rfl k) ?_
        show OwnEnds _ _ _ _ _ _ _ (T59.setTop (mkF m 287 #[.val (.int p0), .val (.long q1), .second, .val (.int p2), .val (.long q3), .second, .val (.int p4), .val (.int p5), .val (.int n), .val (.int vA), .val (.int vB), .val (.int vC), .val (.int (q3.toInt32)), .val (.int (((q3.toUInt64 >>> ((32 : Int32) &&& 0x3f).toInt64.toUInt64).toInt64).toInt32)), .val (.int (p5 &&& (3 : Int32))), .val (.int vC), .val (.ref b43), .val (.int (1 : Int32))] [(.int vC), (.int (((q3.toUInt64 >>> ((32 : Int32) &&& 0x3f).toInt64.toUInt64).toInt64).toInt32)), (.int vB), (.int (q3.toInt32)), (.int vA), (.int vC), (.int (own_exp vC vA (q3.toInt32) vB (((q3.toUInt64 >>> ((32 : Int32) &&& 0x3f).toInt64.toUInt64).toInt64).toInt32) vC p4))]))
        refine ogo (fun t k => XS.iload X59.here hx rfl (hb hby at_287) rfl k) ?_
        show OwnEnds _ _ _ _ _ _ _ (T59.setTop (mkF m 289 #[.val (.int p0), .val (.long q1), .second, .val (.int p2), .val (.long q3), .second, .val (.int p4), .val (.int p5), .val (.int n), .val (.int vA), .val (.int vB), .val (.int vC), .val (.int (q3.toInt32)), .val (.int (((q3.toUInt64 >>> ((32 : Int32) &&& 0x3f).toInt64.toUInt64).toInt64).toInt32)), .val (.int (p5 &&& (3 : Int32))), .val (.int vC), .val (.ref b43), .val (.int (1 : Int32))] [(.int p4), (.int vC), (.int (((q3.toUInt64 >>> ((32 : Int32) &&& 0x3f).toInt64.toUInt64).toInt64).toInt32)), (.int vB), (.int (q3.toInt32)), (.int vA), (.int vC), (.int (own_exp vC vA (q3.toInt32) vB (((q3.toUInt64 >>> ((32 : Int32) &&& 0x3f).toInt64.toUInt64).toInt64).toInt32) vC p4))]))
        obtain ⟨v60, _, ⟨T60, L60, k60, n60⟩, -, X60, ⟨Lc60, hQ60, l60, y60, z60⟩, st60⟩ := Jvm.LawKit.callS X59 hx (y := (⟨"com/example/dispatchwave/dispatchwave/model/VertexLabelsGetPinLaw", "expected", "(IIIIIII)I"⟩ : MethodName)) hown (mvT hZ (hw _ (List.mem_of_getElem? (i := 40) rfl))) (mvT hZ (hw _ (List.mem_of_getElem? (i := 41) rfl))) (mvT hZ (hw _ (List.mem_of_getElem? (i := 2) rfl))) (mvT hZ (hw _ (List.mem_of_getElem? (i := 42) rfl))) (by decide) (backOf (W := 1) (rm7 l Z a0 hw [] vC vA (q3.toInt32) vB (((q3.toUInt64 >>> ((32 : Int32) &&& 0x3f).toInt64.toUInt64).toInt64).toInt32) vC p4 T53.heap n0 Z53 ) hZ (hw _ (List.mem_of_getElem? (i := 42) rfl)) (hw _ (List.mem_of_getElem? (i := 2) rfl)) (by decide) (by decide)) (g := (mkF m 289 #[.val (.int p0), .val (.long q1), .second, .val (.int p2), .val (.long q3), .second, .val (.int p4), .val (.int p5), .val (.int n), .val (.int vA), .val (.int vB), .val (.int vC), .val (.int (q3.toInt32)), .val (.int (((q3.toUInt64 >>> ((32 : Int32) &&& 0x3f).toInt64.toUInt64).toInt64).toInt32)), .val (.int (p5 &&& (3 : Int32))), .val (.int vC), .val (.ref b43), .val (.int (1 : Int32))] [(.int p4), (.int vC), (.int (((q3.toUInt64 >>> ((32 : Int32) &&& 0x3f).toInt64.toUInt64).toInt64).toInt32)), (.int vB), (.int (q3.toInt32)), (.int vA), (.int vC), (.int (own_exp vC vA (q3.toInt32) vB (((q3.toUInt64 >>> ((32 : Int32) &&& 0x3f).toInt64.toUInt64).toInt64).toInt32) vC p4))])) rfl (by rw [hml]; rfl) (argsL := [(.int vC), (.int vA), (.int (q3.toInt32)), (.int vB), (.int (((q3.toUInt64 >>> ((32 : Int32) &&& 0x3f).toInt64.toUInt64).toInt64).toInt32)), (.int vC), (.int p4)]) (rest := [(.int (own_exp vC vA (q3.toInt32) vB (((q3.toUInt64 >>> ((32 : Int32) &&& 0x3f).toInt64.toUInt64).toInt64).toInt32) vC p4))]) (lenOf pd__IIIIIII_I rfl) rfl (by show 2 * 0 + _ ≤ _; exact Nat.le_of_eq rfl) (hb hby at_289) (fun _ _ => ⟨rfl, e59, (by decide : 5 + 0 ≤ _), (by decide : 1413 + 0 ≤ _)⟩)
        dsimp only [Pt.U, Pt.locs, Pt.cells, Pt.slots] at X60 l60 y60 z60 st60 hQ60
        subst l60 y60 z60
        obtain ⟨rfl, N60q, e60⟩ := hQ60
        have N60 := Fr.app N59 N60q
        refine ogo (fun t k => st60 t k) ?_
        show OwnEnds _ _ _ _ _ _ _ (T60.setTop (mkF m 292 #[.val (.int p0), .val (.long q1), .second, .val (.int p2), .val (.long q3), .second, .val (.int p4), .val (.int p5), .val (.int n), .val (.int vA), .val (.int vB), .val (.int vC), .val (.int (q3.toInt32)), .val (.int (((q3.toUInt64 >>> ((32 : Int32) &&& 0x3f).toInt64.toUInt64).toInt64).toInt32)), .val (.int (p5 &&& (3 : Int32))), .val (.int vC), .val (.ref b43), .val (.int (1 : Int32))] [(.int (own_exp vC vA (q3.toInt32) vB (((q3.toUInt64 >>> ((32 : Int32) &&& 0x3f).toInt64.toUInt64).toInt64).toInt32) vC p4)), (.int (own_exp vC vA (q3.toInt32) vB (((q3.toUInt64 >>> ((32 : Int32) &&& 0x3f).toInt64.toUInt64).toInt64).toInt32) vC p4))]))
        refine ogo (fun t k => XS.icmpNo X60.here hx rfl (hb hby at_292) rfl (teq (rfl : (own_exp vC vA (q3.toInt32) vB (((q3.toUInt64 >>> ((32 : Int32) &&& 0x3f).toInt64.toUInt64).toInt64).toInt32) vC p4) = (own_exp vC vA (q3.toInt32) vB (((q3.toUInt64 >>> ((32 : Int32) &&& 0x3f).toInt64.toUInt64).toInt64).toInt32) vC p4))).2 k) ?_
        show OwnEnds _ _ _ _ _ _ _ (T60.setTop (mkF m 295 #[.val (.int p0), .val (.long q1), .second, .val (.int p2), .val (.long q3), .second, .val (.int p4), .val (.int p5), .val (.int n), .val (.int vA), .val (.int vB), .val (.int vC), .val (.int (q3.toInt32)), .val (.int (((q3.toUInt64 >>> ((32 : Int32) &&& 0x3f).toInt64.toUInt64).toInt64).toInt32)), .val (.int (p5 &&& (3 : Int32))), .val (.int vC), .val (.ref b43), .val (.int (1 : Int32))] []))
        refine ogo (fun t k => XS.iconst X60.here hx rfl (hb hby at_295) k) ?_
        show OwnEnds _ _ _ _ _ _ _ (T60.setTop (mkF m 296 #[.val (.int p0), .val (.long q1), .second, .val (.int p2), .val (.long q3), .second, .val (.int p4), .val (.int p5), .val (.int n), .val (.int vA), .val (.int vB), .val (.int vC), .val (.int (q3.toInt32)), .val (.int (((q3.toUInt64 >>> ((32 : Int32) &&& 0x3f).toInt64.toUInt64).toInt64).toInt32)), .val (.int (p5 &&& (3 : Int32))), .val (.int vC), .val (.ref b43), .val (.int (1 : Int32))] [(.int (1 : Int32))]))
        refine ogo (fun t k => XS.goto X60.here hx rfl (pc0 := 296) (pc' := 300) rfl (hb hby at_296) (by decide) (by decide) k) ?_
        show OwnEnds _ _ _ _ _ _ _ (T60.setTop (mkF m 300 #[.val (.int p0), .val (.long q1), .second, .val (.int p2), .val (.long q3), .second, .val (.int p4), .val (.int p5), .val (.int n), .val (.int vA), .val (.int vB), .val (.int vC), .val (.int (q3.toInt32)), .val (.int (((q3.toUInt64 >>> ((32 : Int32) &&& 0x3f).toInt64.toUInt64).toInt64).toInt32)), .val (.int (p5 &&& (3 : Int32))), .val (.int vC), .val (.ref b43), .val (.int (1 : Int32))] [(.int (1 : Int32))]))
        refine ogo (fun t k => XS.istore X60.here hx rfl (hb hby at_300) rfl (l' := #[.val (.int p0), .val (.long q1), .second, .val (.int p2), .val (.long q3), .second, .val (.int p4), .val (.int p5), .val (.int n), .val (.int vA), .val (.int vB), .val (.int vC), .val (.int (q3.toInt32)), .val (.int (((q3.toUInt64 >>> ((32 : Int32) &&& 0x3f).toInt64.toUInt64).toInt64).toInt32)), .val (.int (p5 &&& (3 : Int32))), .val (.int vC), .val (.ref b43), .val (.int (1 : Int32))]) rfl k) ?_
        show OwnEnds _ _ _ _ _ _ _ (T60.setTop (mkF m 302 #[.val (.int p0), .val (.long q1), .second, .val (.int p2), .val (.long q3), .second, .val (.int p4), .val (.int p5), .val (.int n), .val (.int vA), .val (.int vB), .val (.int vC), .val (.int (q3.toInt32)), .val (.int (((q3.toUInt64 >>> ((32 : Int32) &&& 0x3f).toInt64.toUInt64).toInt64).toInt32)), .val (.int (p5 &&& (3 : Int32))), .val (.int vC), .val (.ref b43), .val (.int (1 : Int32))] []))
        refine ogo (fun t k => XS.iload X60.here hx rfl (hb hby at_302) rfl k) ?_
        show OwnEnds _ _ _ _ _ _ _ (T60.setTop (mkF m 304 #[.val (.int p0), .val (.long q1), .second, .val (.int p2), .val (.long q3), .second, .val (.int p4), .val (.int p5), .val (.int n), .val (.int vA), .val (.int vB), .val (.int vC), .val (.int (q3.toInt32)), .val (.int (((q3.toUInt64 >>> ((32 : Int32) &&& 0x3f).toInt64.toUInt64).toInt64).toInt32)), .val (.int (p5 &&& (3 : Int32))), .val (.int vC), .val (.ref b43), .val (.int (1 : Int32))] [(.int (1 : Int32))]))
        refine endZ X60 hx hlk hret rfl (hb hby at_304) (by decide) (by decide) ?_
        show Q0 Z p0 q1 p2 q3 p4 p5 h0 n0 _ T60.heap _
        rw [e60]
        exact ⟨rfl, N60⟩
      · refine ogo (fun t k => XS.icmpYes X3.here hx rfl (pc0 := 85) (pc' := 95) rfl (hb hby at_85) rfl (feq hc42).2 (by decide) (by decide) k) ?_
        show OwnEnds _ _ _ _ _ _ _ (T3.setTop (mkF m 95 #[.val (.int p0), .val (.long q1), .second, .val (.int p2), .val (.long q3), .second, .val (.int p4), .val (.int p5), .val (.int n), .val (.int vA), .val (.int vB), .val (.int vC), .val (.int (q3.toInt32)), .val (.int (((q3.toUInt64 >>> ((32 : Int32) &&& 0x3f).toInt64.toUInt64).toInt64).toInt32)), .val (.int (p5 &&& (3 : Int32))), .unset, .unset, .unset] []))
        refine ogo (fun t k => XS.iload X3.here hx rfl (hb hby at_95) rfl k) ?_
        show OwnEnds _ _ _ _ _ _ _ (T3.setTop (mkF m 97 #[.val (.int p0), .val (.long q1), .second, .val (.int p2), .val (.long q3), .second, .val (.int p4), .val (.int p5), .val (.int n), .val (.int vA), .val (.int vB), .val (.int vC), .val (.int (q3.toInt32)), .val (.int (((q3.toUInt64 >>> ((32 : Int32) &&& 0x3f).toInt64.toUInt64).toInt64).toInt32)), .val (.int (p5 &&& (3 : Int32))), .unset, .unset, .unset] [(.int p5)]))
        refine ogo (fun t k => XS.iconst X3.here hx rfl (hb hby at_97) k) ?_
        show OwnEnds _ _ _ _ _ _ _ (T3.setTop (mkF m 98 #[.val (.int p0), .val (.long q1), .second, .val (.int p2), .val (.long q3), .second, .val (.int p4), .val (.int p5), .val (.int n), .val (.int vA), .val (.int vB), .val (.int vC), .val (.int (q3.toInt32)), .val (.int (((q3.toUInt64 >>> ((32 : Int32) &&& 0x3f).toInt64.toUInt64).toInt64).toInt32)), .val (.int (p5 &&& (3 : Int32))), .unset, .unset, .unset] [(.int (2 : Int32)), (.int p5)]))
        refine ogo (fun t k => XS.iushr X3.here hx rfl (hb hby at_98) rfl k) ?_
        show OwnEnds _ _ _ _ _ _ _ (T3.setTop (mkF m 99 #[.val (.int p0), .val (.long q1), .second, .val (.int p2), .val (.long q3), .second, .val (.int p4), .val (.int p5), .val (.int n), .val (.int vA), .val (.int vB), .val (.int vC), .val (.int (q3.toInt32)), .val (.int (((q3.toUInt64 >>> ((32 : Int32) &&& 0x3f).toInt64.toUInt64).toInt64).toInt32)), .val (.int (p5 &&& (3 : Int32))), .unset, .unset, .unset] [(.int ((p5.toUInt32 >>> ((2 : Int32) &&& 31).toUInt32).toInt32))]))
        refine ogo (fun t k => XS.iload X3.here hx rfl (hb hby at_99) rfl k) ?_
        show OwnEnds _ _ _ _ _ _ _ (T3.setTop (mkF m 101 #[.val (.int p0), .val (.long q1), .second, .val (.int p2), .val (.long q3), .second, .val (.int p4), .val (.int p5), .val (.int n), .val (.int vA), .val (.int vB), .val (.int vC), .val (.int (q3.toInt32)), .val (.int (((q3.toUInt64 >>> ((32 : Int32) &&& 0x3f).toInt64.toUInt64).toInt64).toInt32)), .val (.int (p5 &&& (3 : Int32))), .unset, .unset, .unset] [(.int n), (.int ((p5.toUInt32 >>> ((2 : Int32) &&& 31).toUInt32).toInt32))]))
        obtain ⟨v61, _, ⟨T61, L61, k61, n61⟩, -, X61, ⟨Lc61, hQ61, l61, y61, z61⟩, st61⟩ := Jvm.LawKit.callS X3 hx (y := (⟨"com/example/dispatchwave/dispatchwave/model/VertexLabelsGetPinLaw", "vertex", "(II)I"⟩ : MethodName)) hown (mvT hZ (hw _ (List.mem_of_getElem? (i := 0) rfl))) (mvT hZ (hw _ (List.mem_of_getElem? (i := 1) rfl))) (mvT hZ (hw _ (List.mem_of_getElem? (i := 2) rfl))) (mvT hZ (hw _ (List.mem_of_getElem? (i := 3) rfl))) (by decide) (backOf (W := 0) (rm6 l Z a0 hw [] ((p5.toUInt32 >>> ((2 : Int32) &&& 31).toUInt32).toInt32) n h0 n0 Z0 (own_nz hn)) hZ (hw _ (List.mem_of_getElem? (i := 3) rfl)) (hw _ (List.mem_of_getElem? (i := 2) rfl)) (by decide) (by decide)) (g := (mkF m 101 #[.val (.int p0), .val (.long q1), .second, .val (.int p2), .val (.long q3), .second, .val (.int p4), .val (.int p5), .val (.int n), .val (.int vA), .val (.int vB), .val (.int vC), .val (.int (q3.toInt32)), .val (.int (((q3.toUInt64 >>> ((32 : Int32) &&& 0x3f).toInt64.toUInt64).toInt64).toInt32)), .val (.int (p5 &&& (3 : Int32))), .unset, .unset, .unset] [(.int n), (.int ((p5.toUInt32 >>> ((2 : Int32) &&& 31).toUInt32).toInt32))])) rfl (by rw [hml]; rfl) (argsL := [(.int ((p5.toUInt32 >>> ((2 : Int32) &&& 31).toUInt32).toInt32)), (.int n)]) (rest := []) (lenOf pd__II_I rfl) rfl (by show 2 * 0 + _ ≤ _; exact Nat.le_of_eq rfl) (hb hby at_101) (fun _ _ => ⟨rfl, e3, (by decide : 0 + 0 ≤ _), (by decide : 0 + 0 ≤ _)⟩)
        dsimp only [Pt.U, Pt.locs, Pt.cells, Pt.slots] at X61 l61 y61 z61 st61 hQ61
        subst l61 y61 z61
        obtain ⟨hv61, N61q, e61⟩ := hQ61
        obtain ⟨vQ, hvQ⟩ : ∃ x, x = own_vx ((p5.toUInt32 >>> ((2 : Int32) &&& 31).toUInt32).toInt32) n := ⟨_, rfl⟩
        have ivQ : InN n vQ := hvQ ▸ own_vx_in hn
        obtain rfl : v61 = some (.int vQ) := hv61.trans (by rw [hvQ])
        have N61 := Fr.app N3 N61q
        refine ogo (fun t k => st61 t k) ?_
        show OwnEnds _ _ _ _ _ _ _ (T61.setTop (mkF m 104 #[.val (.int p0), .val (.long q1), .second, .val (.int p2), .val (.long q3), .second, .val (.int p4), .val (.int p5), .val (.int n), .val (.int vA), .val (.int vB), .val (.int vC), .val (.int (q3.toInt32)), .val (.int (((q3.toUInt64 >>> ((32 : Int32) &&& 0x3f).toInt64.toUInt64).toInt64).toInt32)), .val (.int (p5 &&& (3 : Int32))), .unset, .unset, .unset] [(.int vQ)]))
        refine ogo (fun t k => XS.istore X61.here hx rfl (hb hby at_104) rfl (l' := #[.val (.int p0), .val (.long q1), .second, .val (.int p2), .val (.long q3), .second, .val (.int p4), .val (.int p5), .val (.int n), .val (.int vA), .val (.int vB), .val (.int vC), .val (.int (q3.toInt32)), .val (.int (((q3.toUInt64 >>> ((32 : Int32) &&& 0x3f).toInt64.toUInt64).toInt64).toInt32)), .val (.int (p5 &&& (3 : Int32))), .val (.int vQ), .unset, .unset]) rfl k) ?_
        show OwnEnds _ _ _ _ _ _ _ (T61.setTop (mkF m 106 #[.val (.int p0), .val (.long q1), .second, .val (.int p2), .val (.long q3), .second, .val (.int p4), .val (.int p5), .val (.int n), .val (.int vA), .val (.int vB), .val (.int vC), .val (.int (q3.toInt32)), .val (.int (((q3.toUInt64 >>> ((32 : Int32) &&& 0x3f).toInt64.toUInt64).toInt64).toInt32)), .val (.int (p5 &&& (3 : Int32))), .val (.int vQ), .unset, .unset] []))
        obtain ⟨T62, h62, X62, e62, E62, A62, D62, -, st62⟩ := newO X61 hx hZ hown (hw _ (List.mem_of_getElem? (i := 5) rfl)) (hw _ (List.mem_of_getElem? (i := 6) rfl)) (hw _ (List.mem_of_getElem? (i := 7) rfl)) e61 (g := (mkF m 106 #[.val (.int p0), .val (.long q1), .second, .val (.int p2), .val (.long q3), .second, .val (.int p4), .val (.int p5), .val (.int n), .val (.int vA), .val (.int vB), .val (.int vC), .val (.int (q3.toInt32)), .val (.int (((q3.toUInt64 >>> ((32 : Int32) &&& 0x3f).toInt64.toUInt64).toInt64).toInt32)), .val (.int (p5 &&& (3 : Int32))), .val (.int vQ), .unset, .unset] [])) rfl (hb hby at_106) (by decide) (by decide)
        obtain ⟨b62, g62⟩ : ∃ z, z = h0.size := ⟨_, rfl⟩
        rw [← g62] at A62 D62 st62
        have q_b62 : n0 ≤ b62 := Nat.le_trans Z0 (Nat.le_of_eq g62.symm)
        have OLD63 := OLD.ext E62
        have Z63 := Nat.le_trans Z0 E62.1
        have f64 : Fld Z h62 b62 "com/example/dispatchwave/dispatchwave/model/VertexLabels" "vertexCount" "I" (.int (0 : Int32)) := D62 (Or.inr (hw _ (List.mem_of_getElem? (i := 15) rfl))) (ty := .int) (by decide)
        have f65 : Fld Z h62 b62 "com/example/dispatchwave/dispatchwave/model/VertexLabels" "pages" "[[I" .null := D62 (Or.inl (hw _ (List.mem_of_getElem? (i := 19) rfl))) (ty := (.array (.array .int))) (by decide)
        have f66 : Fld Z h62 b62 "com/example/dispatchwave/dispatchwave/model/VertexLabels" "array" "[I" .null := D62 (Or.inl (hw _ (List.mem_of_getElem? (i := 26) rfl))) (ty := (.array .int)) (by decide)
        have f67 : Fld Z h62 b62 "com/example/dispatchwave/dispatchwave/model/VertexLabels" "made" "I" (.int (0 : Int32)) := D62 (Or.inl (hw _ (List.mem_of_getElem? (i := 38) rfl))) (ty := .int) (by decide)
        refine ogo st62 ?_
        show OwnEnds _ _ _ _ _ _ _ (T62.setTop (mkF m 109 #[.val (.int p0), .val (.long q1), .second, .val (.int p2), .val (.long q3), .second, .val (.int p4), .val (.int p5), .val (.int n), .val (.int vA), .val (.int vB), .val (.int vC), .val (.int (q3.toInt32)), .val (.int (((q3.toUInt64 >>> ((32 : Int32) &&& 0x3f).toInt64.toUInt64).toInt64).toInt32)), .val (.int (p5 &&& (3 : Int32))), .val (.int vQ), .unset, .unset] [(.ref b62)]))
        refine ogo (fun t k => XS.dup X62.here hx rfl (hb hby at_109) rfl rfl k) ?_
        show OwnEnds _ _ _ _ _ _ _ (T62.setTop (mkF m 110 #[.val (.int p0), .val (.long q1), .second, .val (.int p2), .val (.long q3), .second, .val (.int p4), .val (.int p5), .val (.int n), .val (.int vA), .val (.int vB), .val (.int vC), .val (.int (q3.toInt32)), .val (.int (((q3.toUInt64 >>> ((32 : Int32) &&& 0x3f).toInt64.toUInt64).toInt64).toInt32)), .val (.int (p5 &&& (3 : Int32))), .val (.int vQ), .unset, .unset] [(.ref b62), (.ref b62)]))
        refine ogo (fun t k => XS.iload X62.here hx rfl (hb hby at_110) rfl k) ?_
        show OwnEnds _ _ _ _ _ _ _ (T62.setTop (mkF m 112 #[.val (.int p0), .val (.long q1), .second, .val (.int p2), .val (.long q3), .second, .val (.int p4), .val (.int p5), .val (.int n), .val (.int vA), .val (.int vB), .val (.int vC), .val (.int (q3.toInt32)), .val (.int (((q3.toUInt64 >>> ((32 : Int32) &&& 0x3f).toInt64.toUInt64).toInt64).toInt32)), .val (.int (p5 &&& (3 : Int32))), .val (.int vQ), .unset, .unset] [(.int n), (.ref b62), (.ref b62)]))
        obtain ⟨v68, _, ⟨T68, L68, k68, n68⟩, -, X68, ⟨Lc68, hQ68, l68, y68, z68⟩, st68⟩ := X62.specialBack hx (y := (⟨"com/example/dispatchwave/dispatchwave/model/VertexLabels", "<init>", "(I)V"⟩ : MethodName)) rfl hown (mvT hZ (hw _ (List.mem_of_getElem? (i := 8) rfl))) (mvT hZ (hw _ (List.mem_of_getElem? (i := 9) rfl))) (mvT hZ (hw _ (List.mem_of_getElem? (i := 10) rfl))) (by decide) (backOf (W := 1) (rm1 l Z a0 hw [] b62 n h62 n0 Z63 OLD63 A62 f64 f65 f66 f67 q_b62 hn) hZ (hw _ (List.mem_of_getElem? (i := 10) rfl)) (hw _ (List.mem_of_getElem? (i := 7) rfl)) (by decide) (by decide)) (g := (mkF m 112 #[.val (.int p0), .val (.long q1), .second, .val (.int p2), .val (.long q3), .second, .val (.int p4), .val (.int p5), .val (.int n), .val (.int vA), .val (.int vB), .val (.int vC), .val (.int (q3.toInt32)), .val (.int (((q3.toUInt64 >>> ((32 : Int32) &&& 0x3f).toInt64.toUInt64).toInt64).toInt32)), .val (.int (p5 &&& (3 : Int32))), .val (.int vQ), .unset, .unset] [(.int n), (.ref b62), (.ref b62)])) rfl (by rw [hml]; rfl) (Steps.refl _) (a := b62) (argsL := [(.int n)]) (rest := [(.ref b62)]) (lenOf pd__I_V rfl) rfl (by show 2 * 0 + _ ≤ _; exact Nat.le_of_eq rfl) (hb hby at_112) (fun _ _ => ⟨rfl, e62, (by decide : 1 + 1 ≤ _), (by decide : 4 + 65 ≤ _)⟩)
        dsimp only [Pt.U, Pt.locs, Pt.cells, Pt.slots] at X68 l68 y68 z68 st68 hQ68
        subst l68 y68 z68
        obtain ⟨rfl, N68q, OLD68, Z68, hL68⟩ := hQ68
        have N68 := Fr.app N61 N68q
        have E68a := hL68.1.2.1
        refine ogo (fun t k => st68.trans k) ?_
        show OwnEnds _ _ _ _ _ _ _ (T68.setTop (mkF m 115 #[.val (.int p0), .val (.long q1), .second, .val (.int p2), .val (.long q3), .second, .val (.int p4), .val (.int p5), .val (.int n), .val (.int vA), .val (.int vB), .val (.int vC), .val (.int (q3.toInt32)), .val (.int (((q3.toUInt64 >>> ((32 : Int32) &&& 0x3f).toInt64.toUInt64).toInt64).toInt32)), .val (.int (p5 &&& (3 : Int32))), .val (.int vQ), .unset, .unset] [(.ref b62)]))
        refine ogo (fun t k => XS.astore X68.here hx rfl (hb hby at_115) rfl rfl (l' := #[.val (.int p0), .val (.long q1), .second, .val (.int p2), .val (.long q3), .second, .val (.int p4), .val (.int p5), .val (.int n), .val (.int vA), .val (.int vB), .val (.int vC), .val (.int (q3.toInt32)), .val (.int (((q3.toUInt64 >>> ((32 : Int32) &&& 0x3f).toInt64.toUInt64).toInt64).toInt32)), .val (.int (p5 &&& (3 : Int32))), .val (.int vQ), .val (.ref b62), .unset]) rfl k) ?_
        show OwnEnds _ _ _ _ _ _ _ (T68.setTop (mkF m 117 #[.val (.int p0), .val (.long q1), .second, .val (.int p2), .val (.long q3), .second, .val (.int p4), .val (.int p5), .val (.int n), .val (.int vA), .val (.int vB), .val (.int vC), .val (.int (q3.toInt32)), .val (.int (((q3.toUInt64 >>> ((32 : Int32) &&& 0x3f).toInt64.toUInt64).toInt64).toInt32)), .val (.int (p5 &&& (3 : Int32))), .val (.int vQ), .val (.ref b62), .unset] []))
        refine ogo (fun t k => XS.aload X68.here hx rfl (hb hby at_117) rfl rfl k) ?_
        show OwnEnds _ _ _ _ _ _ _ (T68.setTop (mkF m 119 #[.val (.int p0), .val (.long q1), .second, .val (.int p2), .val (.long q3), .second, .val (.int p4), .val (.int p5), .val (.int n), .val (.int vA), .val (.int vB), .val (.int vC), .val (.int (q3.toInt32)), .val (.int (((q3.toUInt64 >>> ((32 : Int32) &&& 0x3f).toInt64.toUInt64).toInt64).toInt32)), .val (.int (p5 &&& (3 : Int32))), .val (.int vQ), .val (.ref b62), .unset] [(.ref b62)]))
        refine ogo (fun t k => XS.iload X68.here hx rfl (hb hby at_119) rfl k) ?_
        show OwnEnds _ _ _ _ _ _ _ (T68.setTop (mkF m 121 #[.val (.int p0), .val (.long q1), .second, .val (.int p2), .val (.long q3), .second, .val (.int p4), .val (.int p5), .val (.int n), .val (.int vA), .val (.int vB), .val (.int vC), .val (.int (q3.toInt32)), .val (.int (((q3.toUInt64 >>> ((32 : Int32) &&& 0x3f).toInt64.toUInt64).toInt64).toInt32)), .val (.int (p5 &&& (3 : Int32))), .val (.int vQ), .val (.ref b62), .unset] [(.int vQ), (.ref b62)]))
        obtain ⟨cq69, kq69, q69a, q69b, q69c⟩ := isOf hZ rfl E68a
        obtain ⟨v69, _, ⟨T69, L69, k69, n69⟩, -, X69, ⟨Lc69, hQ69, l69, y69, z69⟩, st69⟩ := X68.virtualBack hx (y := (⟨"com/example/dispatchwave/dispatchwave/model/VertexLabels", "get", "(I)I"⟩ : MethodName)) (z := (⟨"com/example/dispatchwave/dispatchwave/model/VertexLabels", "get", "(I)I"⟩ : MethodName)) hown (mvT hZ (hw _ (List.mem_of_getElem? (i := 20) rfl))) (mvT hZ (hw _ (List.mem_of_getElem? (i := 21) rfl))) (notFace_of_selects (args := #[]) (mvT hZ (hw _ (List.mem_of_getElem? (i := 23) rfl)))) (mvT hZ (hw _ (List.mem_of_getElem? (i := 23) rfl))) (mvT hZ (hw _ (List.mem_of_getElem? (i := 22) rfl))) (by decide) (backOf (W := 0) (rm2 l Z a0 hw [] b62 vQ n (fun _ => 0) _ T68.heap n0 Z68 hL68 hn ivQ) hZ (hw _ (List.mem_of_getElem? (i := 24) rfl)) (hw _ (List.mem_of_getElem? (i := 7) rfl)) (by decide) (by decide)) q69a q69c (g := (mkF m 121 #[.val (.int p0), .val (.long q1), .second, .val (.int p2), .val (.long q3), .second, .val (.int p4), .val (.int p5), .val (.int n), .val (.int vA), .val (.int vB), .val (.int vC), .val (.int (q3.toInt32)), .val (.int (((q3.toUInt64 >>> ((32 : Int32) &&& 0x3f).toInt64.toUInt64).toInt64).toInt32)), .val (.int (p5 &&& (3 : Int32))), .val (.int vQ), .val (.ref b62), .unset] [(.int vQ), (.ref b62)])) rfl (by rw [hml]; rfl) (Steps.refl _) (argsL := [(.int vQ)]) (rest := []) (lenOf pd__I_I rfl) rfl (by show 2 * 0 + _ ≤ _; exact Nat.le_of_eq rfl) (hb hby at_121) (fun _ _ => ⟨rfl, rfl, (by decide : 2 + 0 ≤ _), (by decide : 69 + 0 ≤ _)⟩)
        dsimp only [Pt.U, Pt.locs, Pt.cells, Pt.slots] at X69 l69 y69 z69 st69 hQ69
        subst l69 y69 z69
        obtain ⟨hv69, N69q, e69⟩ := hQ69
        obtain rfl : v69 = some (.int (0 : Int32)) := hv69.trans (by rfl)
        have N69 := Fr.app N68 N69q
        refine ogo (fun t k => st69.trans k) ?_
        show OwnEnds _ _ _ _ _ _ _ (T69.setTop (mkF m 124 #[.val (.int p0), .val (.long q1), .second, .val (.int p2), .val (.long q3), .second, .val (.int p4), .val (.int p5), .val (.int n), .val (.int vA), .val (.int vB), .val (.int vC), .val (.int (q3.toInt32)), .val (.int (((q3.toUInt64 >>> ((32 : Int32) &&& 0x3f).toInt64.toUInt64).toInt64).toInt32)), .val (.int (p5 &&& (3 : Int32))), .val (.int vQ), .val (.ref b62), .unset] [(.int (0 : Int32))]))
        refine ogo (fun t k => XS.ifNo X69.here hx rfl (hb hby at_124) rfl ((if0 _ _).trans (teq (by decide : (0 : Int32) = (0 : Int32))).2) k) ?_
        show OwnEnds _ _ _ _ _ _ _ (T69.setTop (mkF m 127 #[.val (.int p0), .val (.long q1), .second, .val (.int p2), .val (.long q3), .second, .val (.int p4), .val (.int p5), .val (.int n), .val (.int vA), .val (.int vB), .val (.int vC), .val (.int (q3.toInt32)), .val (.int (((q3.toUInt64 >>> ((32 : Int32) &&& 0x3f).toInt64.toUInt64).toInt64).toInt32)), .val (.int (p5 &&& (3 : Int32))), .val (.int vQ), .val (.ref b62), .unset] []))
        refine ogo (fun t k => XS.iconst X69.here hx rfl (hb hby at_127) k) ?_
        show OwnEnds _ _ _ _ _ _ _ (T69.setTop (mkF m 128 #[.val (.int p0), .val (.long q1), .second, .val (.int p2), .val (.long q3), .second, .val (.int p4), .val (.int p5), .val (.int n), .val (.int vA), .val (.int vB), .val (.int vC), .val (.int (q3.toInt32)), .val (.int (((q3.toUInt64 >>> ((32 : Int32) &&& 0x3f).toInt64.toUInt64).toInt64).toInt32)), .val (.int (p5 &&& (3 : Int32))), .val (.int vQ), .val (.ref b62), .unset] [(.int (1 : Int32))]))
        refine ogo (fun t k => XS.goto X69.here hx rfl (pc0 := 128) (pc' := 132) rfl (hb hby at_128) (by decide) (by decide) k) ?_
        show OwnEnds _ _ _ _ _ _ _ (T69.setTop (mkF m 132 #[.val (.int p0), .val (.long q1), .second, .val (.int p2), .val (.long q3), .second, .val (.int p4), .val (.int p5), .val (.int n), .val (.int vA), .val (.int vB), .val (.int vC), .val (.int (q3.toInt32)), .val (.int (((q3.toUInt64 >>> ((32 : Int32) &&& 0x3f).toInt64.toUInt64).toInt64).toInt32)), .val (.int (p5 &&& (3 : Int32))), .val (.int vQ), .val (.ref b62), .unset] [(.int (1 : Int32))]))
        refine ogo (fun t k => XS.istore X69.here hx rfl (hb hby at_132) rfl (l' := #[.val (.int p0), .val (.long q1), .second, .val (.int p2), .val (.long q3), .second, .val (.int p4), .val (.int p5), .val (.int n), .val (.int vA), .val (.int vB), .val (.int vC), .val (.int (q3.toInt32)), .val (.int (((q3.toUInt64 >>> ((32 : Int32) &&& 0x3f).toInt64.toUInt64).toInt64).toInt32)), .val (.int (p5 &&& (3 : Int32))), .val (.int vQ), .val (.ref b62), .val (.int (1 : Int32))]) rfl k) ?_
        show OwnEnds _ _ _ _ _ _ _ (T69.setTop (mkF m 134 #[.val (.int p0), .val (.long q1), .second, .val (.int p2), .val (.long q3), .second, .val (.int p4), .val (.int p5), .val (.int n), .val (.int vA), .val (.int vB), .val (.int vC), .val (.int (q3.toInt32)), .val (.int (((q3.toUInt64 >>> ((32 : Int32) &&& 0x3f).toInt64.toUInt64).toInt64).toInt32)), .val (.int (p5 &&& (3 : Int32))), .val (.int vQ), .val (.ref b62), .val (.int (1 : Int32))] []))
        refine ogo (fun t k => XS.aload X69.here hx rfl (hb hby at_134) rfl rfl k) ?_
        show OwnEnds _ _ _ _ _ _ _ (T69.setTop (mkF m 136 #[.val (.int p0), .val (.long q1), .second, .val (.int p2), .val (.long q3), .second, .val (.int p4), .val (.int p5), .val (.int n), .val (.int vA), .val (.int vB), .val (.int vC), .val (.int (q3.toInt32)), .val (.int (((q3.toUInt64 >>> ((32 : Int32) &&& 0x3f).toInt64.toUInt64).toInt64).toInt32)), .val (.int (p5 &&& (3 : Int32))), .val (.int vQ), .val (.ref b62), .val (.int (1 : Int32))] [(.ref b62)]))
        refine ogo (fun t k => XS.iload X69.here hx rfl (hb hby at_136) rfl k) ?_
        show OwnEnds _ _ _ _ _ _ _ (T69.setTop (mkF m 138 #[.val (.int p0), .val (.long q1), .second, .val (.int p2), .val (.long q3), .second, .val (.int p4), .val (.int p5), .val (.int n), .val (.int vA), .val (.int vB), .val (.int vC), .val (.int (q3.toInt32)), .val (.int (((q3.toUInt64 >>> ((32 : Int32) &&& 0x3f).toInt64.toUInt64).toInt64).toInt32)), .val (.int (p5 &&& (3 : Int32))), .val (.int vQ), .val (.ref b62), .val (.int (1 : Int32))] [(.int vA), (.ref b62)]))
        refine ogo (fun t k => XS.iload X69.here hx rfl (hb hby at_138) rfl k) ?_
        show OwnEnds _ _ _ _ _ _ _ (T69.setTop (mkF m 140 #[.val (.int p0), .val (.long q1), .second, .val (.int p2), .val (.long q3), .second, .val (.int p4), .val (.int p5), .val (.int n), .val (.int vA), .val (.int vB), .val (.int vC), .val (.int (q3.toInt32)), .val (.int (((q3.toUInt64 >>> ((32 : Int32) &&& 0x3f).toInt64.toUInt64).toInt64).toInt32)), .val (.int (p5 &&& (3 : Int32))), .val (.int vQ), .val (.ref b62), .val (.int (1 : Int32))] [(.int (q3.toInt32)), (.int vA), (.ref b62)]))
        obtain ⟨cq70, kq70, q70a, q70b, q70c⟩ := isOf hZ e69 E68a
        obtain ⟨v70, _, ⟨T70, L70, k70, n70⟩, -, X70, ⟨Lc70, hQ70, l70, y70, z70⟩, st70⟩ := X69.virtualBack hx (y := (⟨"com/example/dispatchwave/dispatchwave/model/VertexLabels", "put", "(II)V"⟩ : MethodName)) (z := (⟨"com/example/dispatchwave/dispatchwave/model/VertexLabels", "put", "(II)V"⟩ : MethodName)) hown (mvT hZ (hw _ (List.mem_of_getElem? (i := 27) rfl))) (mvT hZ (hw _ (List.mem_of_getElem? (i := 28) rfl))) (notFace_of_selects (args := #[]) (mvT hZ (hw _ (List.mem_of_getElem? (i := 30) rfl)))) (mvT hZ (hw _ (List.mem_of_getElem? (i := 30) rfl))) (mvT hZ (hw _ (List.mem_of_getElem? (i := 29) rfl))) (by decide) (backOf (W := 0) (rm50 l Z a0 hw [] b62 vA (q3.toInt32) n (fun _ => 0) T68.heap n0 Z68 OLD68 hL68 hn ivA) hZ (hw _ (List.mem_of_getElem? (i := 31) rfl)) (hw _ (List.mem_of_getElem? (i := 7) rfl)) (by decide) (by decide)) q70a q70c (g := (mkF m 140 #[.val (.int p0), .val (.long q1), .second, .val (.int p2), .val (.long q3), .second, .val (.int p4), .val (.int p5), .val (.int n), .val (.int vA), .val (.int vB), .val (.int vC), .val (.int (q3.toInt32)), .val (.int (((q3.toUInt64 >>> ((32 : Int32) &&& 0x3f).toInt64.toUInt64).toInt64).toInt32)), .val (.int (p5 &&& (3 : Int32))), .val (.int vQ), .val (.ref b62), .val (.int (1 : Int32))] [(.int (q3.toInt32)), (.int vA), (.ref b62)])) rfl (by rw [hml]; rfl) (Steps.refl _) (argsL := [(.int vA), (.int (q3.toInt32))]) (rest := []) (lenOf pd__II_V rfl) rfl (by show 2 * 0 + _ ≤ _; exact Nat.le_of_eq rfl) (hb hby at_140) (fun _ _ => ⟨rfl, e69, (by decide : 2 + 1 ≤ _), (by decide : 69 + 192 ≤ _)⟩)
        dsimp only [Pt.U, Pt.locs, Pt.cells, Pt.slots] at X70 l70 y70 z70 st70 hQ70
        subst l70 y70 z70
        obtain ⟨rfl, N70q, OLD70, Z70, hL70⟩ := hQ70
        have N70 := Fr.app N69 N70q
        have E70a := hL70.1.2.1
        refine ogo (fun t k => st70.trans k) ?_
        show OwnEnds _ _ _ _ _ _ _ (T70.setTop (mkF m 143 #[.val (.int p0), .val (.long q1), .second, .val (.int p2), .val (.long q3), .second, .val (.int p4), .val (.int p5), .val (.int n), .val (.int vA), .val (.int vB), .val (.int vC), .val (.int (q3.toInt32)), .val (.int (((q3.toUInt64 >>> ((32 : Int32) &&& 0x3f).toInt64.toUInt64).toInt64).toInt32)), .val (.int (p5 &&& (3 : Int32))), .val (.int vQ), .val (.ref b62), .val (.int (1 : Int32))] []))
        refine ogo (fun t k => XS.aload X70.here hx rfl (hb hby at_143) rfl rfl k) ?_
        show OwnEnds _ _ _ _ _ _ _ (T70.setTop (mkF m 145 #[.val (.int p0), .val (.long q1), .second, .val (.int p2), .val (.long q3), .second, .val (.int p4), .val (.int p5), .val (.int n), .val (.int vA), .val (.int vB), .val (.int vC), .val (.int (q3.toInt32)), .val (.int (((q3.toUInt64 >>> ((32 : Int32) &&& 0x3f).toInt64.toUInt64).toInt64).toInt32)), .val (.int (p5 &&& (3 : Int32))), .val (.int vQ), .val (.ref b62), .val (.int (1 : Int32))] [(.ref b62)]))
        refine ogo (fun t k => XS.iload X70.here hx rfl (hb hby at_145) rfl k) ?_
        show OwnEnds _ _ _ _ _ _ _ (T70.setTop (mkF m 147 #[.val (.int p0), .val (.long q1), .second, .val (.int p2), .val (.long q3), .second, .val (.int p4), .val (.int p5), .val (.int n), .val (.int vA), .val (.int vB), .val (.int vC), .val (.int (q3.toInt32)), .val (.int (((q3.toUInt64 >>> ((32 : Int32) &&& 0x3f).toInt64.toUInt64).toInt64).toInt32)), .val (.int (p5 &&& (3 : Int32))), .val (.int vQ), .val (.ref b62), .val (.int (1 : Int32))] [(.int vB), (.ref b62)]))
        refine ogo (fun t k => XS.iload X70.here hx rfl (hb hby at_147) rfl k) ?_
        show OwnEnds _ _ _ _ _ _ _ (T70.setTop (mkF m 149 #[.val (.int p0), .val (.long q1), .second, .val (.int p2), .val (.long q3), .second, .val (.int p4), .val (.int p5), .val (.int n), .val (.int vA), .val (.int vB), .val (.int vC), .val (.int (q3.toInt32)), .val (.int (((q3.toUInt64 >>> ((32 : Int32) &&& 0x3f).toInt64.toUInt64).toInt64).toInt32)), .val (.int (p5 &&& (3 : Int32))), .val (.int vQ), .val (.ref b62), .val (.int (1 : Int32))] [(.int (((q3.toUInt64 >>> ((32 : Int32) &&& 0x3f).toInt64.toUInt64).toInt64).toInt32)), (.int vB), (.ref b62)]))
        obtain ⟨cq71, kq71, q71a, q71b, q71c⟩ := isOf hZ rfl E70a
        obtain ⟨v71, _, ⟨T71, L71, k71, n71⟩, -, X71, ⟨Lc71, hQ71, l71, y71, z71⟩, st71⟩ := X70.virtualBack hx (y := (⟨"com/example/dispatchwave/dispatchwave/model/VertexLabels", "put", "(II)V"⟩ : MethodName)) (z := (⟨"com/example/dispatchwave/dispatchwave/model/VertexLabels", "put", "(II)V"⟩ : MethodName)) hown (mvT hZ (hw _ (List.mem_of_getElem? (i := 27) rfl))) (mvT hZ (hw _ (List.mem_of_getElem? (i := 28) rfl))) (notFace_of_selects (args := #[]) (mvT hZ (hw _ (List.mem_of_getElem? (i := 30) rfl)))) (mvT hZ (hw _ (List.mem_of_getElem? (i := 30) rfl))) (mvT hZ (hw _ (List.mem_of_getElem? (i := 29) rfl))) (by decide) (backOf (W := 0) (rm51 l Z a0 hw [] b62 vB (((q3.toUInt64 >>> ((32 : Int32) &&& 0x3f).toInt64.toUInt64).toInt64).toInt32) n (fupd (fun _ => 0) vA.toInt.toNat (q3.toInt32)) T70.heap n0 Z70 OLD70 hL70 hn ivB) hZ (hw _ (List.mem_of_getElem? (i := 31) rfl)) (hw _ (List.mem_of_getElem? (i := 7) rfl)) (by decide) (by decide)) q71a q71c (g := (mkF m 149 #[.val (.int p0), .val (.long q1), .second, .val (.int p2), .val (.long q3), .second, .val (.int p4), .val (.int p5), .val (.int n), .val (.int vA), .val (.int vB), .val (.int vC), .val (.int (q3.toInt32)), .val (.int (((q3.toUInt64 >>> ((32 : Int32) &&& 0x3f).toInt64.toUInt64).toInt64).toInt32)), .val (.int (p5 &&& (3 : Int32))), .val (.int vQ), .val (.ref b62), .val (.int (1 : Int32))] [(.int (((q3.toUInt64 >>> ((32 : Int32) &&& 0x3f).toInt64.toUInt64).toInt64).toInt32)), (.int vB), (.ref b62)])) rfl (by rw [hml]; rfl) (Steps.refl _) (argsL := [(.int vB), (.int (((q3.toUInt64 >>> ((32 : Int32) &&& 0x3f).toInt64.toUInt64).toInt64).toInt32))]) (rest := []) (lenOf pd__II_V rfl) rfl (by show 2 * 0 + _ ≤ _; exact Nat.le_of_eq rfl) (hb hby at_149) (fun _ _ => ⟨rfl, rfl, (by decide : 3 + 1 ≤ _), (by decide : 261 + 448 ≤ _)⟩)
        dsimp only [Pt.U, Pt.locs, Pt.cells, Pt.slots] at X71 l71 y71 z71 st71 hQ71
        subst l71 y71 z71
        obtain ⟨rfl, N71q, OLD71, Z71, hL71⟩ := hQ71
        have N71 := Fr.app N70 N71q
        have E71a := hL71.1.2.1
        refine ogo (fun t k => st71.trans k) ?_
        show OwnEnds _ _ _ _ _ _ _ (T71.setTop (mkF m 152 #[.val (.int p0), .val (.long q1), .second, .val (.int p2), .val (.long q3), .second, .val (.int p4), .val (.int p5), .val (.int n), .val (.int vA), .val (.int vB), .val (.int vC), .val (.int (q3.toInt32)), .val (.int (((q3.toUInt64 >>> ((32 : Int32) &&& 0x3f).toInt64.toUInt64).toInt64).toInt32)), .val (.int (p5 &&& (3 : Int32))), .val (.int vQ), .val (.ref b62), .val (.int (1 : Int32))] []))
        refine ogo (fun t k => XS.aload X71.here hx rfl (hb hby at_152) rfl rfl k) ?_
        show OwnEnds _ _ _ _ _ _ _ (T71.setTop (mkF m 154 #[.val (.int p0), .val (.long q1), .second, .val (.int p2), .val (.long q3), .second, .val (.int p4), .val (.int p5), .val (.int n), .val (.int vA), .val (.int vB), .val (.int vC), .val (.int (q3.toInt32)), .val (.int (((q3.toUInt64 >>> ((32 : Int32) &&& 0x3f).toInt64.toUInt64).toInt64).toInt32)), .val (.int (p5 &&& (3 : Int32))), .val (.int vQ), .val (.ref b62), .val (.int (1 : Int32))] [(.ref b62)]))
        refine ogo (fun t k => XS.iload X71.here hx rfl (hb hby at_154) rfl k) ?_
        show OwnEnds _ _ _ _ _ _ _ (T71.setTop (mkF m 156 #[.val (.int p0), .val (.long q1), .second, .val (.int p2), .val (.long q3), .second, .val (.int p4), .val (.int p5), .val (.int n), .val (.int vA), .val (.int vB), .val (.int vC), .val (.int (q3.toInt32)), .val (.int (((q3.toUInt64 >>> ((32 : Int32) &&& 0x3f).toInt64.toUInt64).toInt64).toInt32)), .val (.int (p5 &&& (3 : Int32))), .val (.int vQ), .val (.ref b62), .val (.int (1 : Int32))] [(.int vC), (.ref b62)]))
        refine ogo (fun t k => XS.iload X71.here hx rfl (hb hby at_156) rfl k) ?_
        show OwnEnds _ _ _ _ _ _ _ (T71.setTop (mkF m 158 #[.val (.int p0), .val (.long q1), .second, .val (.int p2), .val (.long q3), .second, .val (.int p4), .val (.int p5), .val (.int n), .val (.int vA), .val (.int vB), .val (.int vC), .val (.int (q3.toInt32)), .val (.int (((q3.toUInt64 >>> ((32 : Int32) &&& 0x3f).toInt64.toUInt64).toInt64).toInt32)), .val (.int (p5 &&& (3 : Int32))), .val (.int vQ), .val (.ref b62), .val (.int (1 : Int32))] [(.int p4), (.int vC), (.ref b62)]))
        obtain ⟨cq72, kq72, q72a, q72b, q72c⟩ := isOf hZ rfl E71a
        obtain ⟨v72, _, ⟨T72, L72, k72, n72⟩, -, X72, ⟨Lc72, hQ72, l72, y72, z72⟩, st72⟩ := X71.virtualBack hx (y := (⟨"com/example/dispatchwave/dispatchwave/model/VertexLabels", "put", "(II)V"⟩ : MethodName)) (z := (⟨"com/example/dispatchwave/dispatchwave/model/VertexLabels", "put", "(II)V"⟩ : MethodName)) hown (mvT hZ (hw _ (List.mem_of_getElem? (i := 27) rfl))) (mvT hZ (hw _ (List.mem_of_getElem? (i := 28) rfl))) (notFace_of_selects (args := #[]) (mvT hZ (hw _ (List.mem_of_getElem? (i := 30) rfl)))) (mvT hZ (hw _ (List.mem_of_getElem? (i := 30) rfl))) (mvT hZ (hw _ (List.mem_of_getElem? (i := 29) rfl))) (by decide) (backOf (W := 0) (rm52 l Z a0 hw [] b62 vC p4 n (fupd (fupd (fun _ => 0) vA.toInt.toNat (q3.toInt32)) vB.toInt.toNat (((q3.toUInt64 >>> ((32 : Int32) &&& 0x3f).toInt64.toUInt64).toInt64).toInt32)) T71.heap n0 Z71 OLD71 hL71 hn ivC) hZ (hw _ (List.mem_of_getElem? (i := 31) rfl)) (hw _ (List.mem_of_getElem? (i := 7) rfl)) (by decide) (by decide)) q72a q72c (g := (mkF m 158 #[.val (.int p0), .val (.long q1), .second, .val (.int p2), .val (.long q3), .second, .val (.int p4), .val (.int p5), .val (.int n), .val (.int vA), .val (.int vB), .val (.int vC), .val (.int (q3.toInt32)), .val (.int (((q3.toUInt64 >>> ((32 : Int32) &&& 0x3f).toInt64.toUInt64).toInt64).toInt32)), .val (.int (p5 &&& (3 : Int32))), .val (.int vQ), .val (.ref b62), .val (.int (1 : Int32))] [(.int p4), (.int vC), (.ref b62)])) rfl (by rw [hml]; rfl) (Steps.refl _) (argsL := [(.int vC), (.int p4)]) (rest := []) (lenOf pd__II_V rfl) rfl (by show 2 * 0 + _ ≤ _; exact Nat.le_of_eq rfl) (hb hby at_158) (fun _ _ => ⟨rfl, rfl, (by decide : 4 + 1 ≤ _), (by decide : 709 + 704 ≤ _)⟩)
        dsimp only [Pt.U, Pt.locs, Pt.cells, Pt.slots] at X72 l72 y72 z72 st72 hQ72
        subst l72 y72 z72
        obtain ⟨rfl, N72q, OLD72, Z72, hL72⟩ := hQ72
        have N72 := Fr.app N71 N72q
        have E72a := hL72.1.2.1
        refine ogo (fun t k => st72.trans k) ?_
        show OwnEnds _ _ _ _ _ _ _ (T72.setTop (mkF m 161 #[.val (.int p0), .val (.long q1), .second, .val (.int p2), .val (.long q3), .second, .val (.int p4), .val (.int p5), .val (.int n), .val (.int vA), .val (.int vB), .val (.int vC), .val (.int (q3.toInt32)), .val (.int (((q3.toUInt64 >>> ((32 : Int32) &&& 0x3f).toInt64.toUInt64).toInt64).toInt32)), .val (.int (p5 &&& (3 : Int32))), .val (.int vQ), .val (.ref b62), .val (.int (1 : Int32))] []))
        refine ogo (fun t k => XS.iload X72.here hx rfl (hb hby at_161) rfl k) ?_
        show OwnEnds _ _ _ _ _ _ _ (T72.setTop (mkF m 163 #[.val (.int p0), .val (.long q1), .second, .val (.int p2), .val (.long q3), .second, .val (.int p4), .val (.int p5), .val (.int n), .val (.int vA), .val (.int vB), .val (.int vC), .val (.int (q3.toInt32)), .val (.int (((q3.toUInt64 >>> ((32 : Int32) &&& 0x3f).toInt64.toUInt64).toInt64).toInt32)), .val (.int (p5 &&& (3 : Int32))), .val (.int vQ), .val (.ref b62), .val (.int (1 : Int32))] [(.int (1 : Int32))]))
        refine ogo (fun t k => XS.ifNo X72.here hx rfl (hb hby at_163) rfl ((if0 _ _).trans (feq (by decide : ¬ ((1 : Int32) = (0 : Int32)))).1) k) ?_
        show OwnEnds _ _ _ _ _ _ _ (T72.setTop (mkF m 166 #[.val (.int p0), .val (.long q1), .second, .val (.int p2), .val (.long q3), .second, .val (.int p4), .val (.int p5), .val (.int n), .val (.int vA), .val (.int vB), .val (.int vC), .val (.int (q3.toInt32)), .val (.int (((q3.toUInt64 >>> ((32 : Int32) &&& 0x3f).toInt64.toUInt64).toInt64).toInt32)), .val (.int (p5 &&& (3 : Int32))), .val (.int vQ), .val (.ref b62), .val (.int (1 : Int32))] []))
        refine ogo (fun t k => XS.aload X72.here hx rfl (hb hby at_166) rfl rfl k) ?_
        show OwnEnds _ _ _ _ _ _ _ (T72.setTop (mkF m 168 #[.val (.int p0), .val (.long q1), .second, .val (.int p2), .val (.long q3), .second, .val (.int p4), .val (.int p5), .val (.int n), .val (.int vA), .val (.int vB), .val (.int vC), .val (.int (q3.toInt32)), .val (.int (((q3.toUInt64 >>> ((32 : Int32) &&& 0x3f).toInt64.toUInt64).toInt64).toInt32)), .val (.int (p5 &&& (3 : Int32))), .val (.int vQ), .val (.ref b62), .val (.int (1 : Int32))] [(.ref b62)]))
        refine ogo (fun t k => XS.iload X72.here hx rfl (hb hby at_168) rfl k) ?_
        show OwnEnds _ _ _ _ _ _ _ (T72.setTop (mkF m 170 #[.val (.int p0), .val (.long q1), .second, .val (.int p2), .val (.long q3), .second, .val (.int p4), .val (.int p5), .val (.int n), .val (.int vA), .val (.int vB), .val (.int vC), .val (.int (q3.toInt32)), .val (.int (((q3.toUInt64 >>> ((32 : Int32) &&& 0x3f).toInt64.toUInt64).toInt64).toInt32)), .val (.int (p5 &&& (3 : Int32))), .val (.int vQ), .val (.ref b62), .val (.int (1 : Int32))] [(.int vA), (.ref b62)]))
        obtain ⟨cq73, kq73, q73a, q73b, q73c⟩ := isOf hZ rfl E72a
        obtain ⟨v73, _, ⟨T73, L73, k73, n73⟩, -, X73, ⟨Lc73, hQ73, l73, y73, z73⟩, st73⟩ := X72.virtualBack hx (y := (⟨"com/example/dispatchwave/dispatchwave/model/VertexLabels", "get", "(I)I"⟩ : MethodName)) (z := (⟨"com/example/dispatchwave/dispatchwave/model/VertexLabels", "get", "(I)I"⟩ : MethodName)) hown (mvT hZ (hw _ (List.mem_of_getElem? (i := 20) rfl))) (mvT hZ (hw _ (List.mem_of_getElem? (i := 21) rfl))) (notFace_of_selects (args := #[]) (mvT hZ (hw _ (List.mem_of_getElem? (i := 23) rfl)))) (mvT hZ (hw _ (List.mem_of_getElem? (i := 23) rfl))) (mvT hZ (hw _ (List.mem_of_getElem? (i := 22) rfl))) (by decide) (backOf (W := 0) (rm2 l Z a0 hw [] b62 vA n (fupd (fupd (fupd (fun _ => 0) vA.toInt.toNat (q3.toInt32)) vB.toInt.toNat (((q3.toUInt64 >>> ((32 : Int32) &&& 0x3f).toInt64.toUInt64).toInt64).toInt32)) vC.toInt.toNat p4) _ T72.heap n0 Z72 hL72 hn ivA) hZ (hw _ (List.mem_of_getElem? (i := 24) rfl)) (hw _ (List.mem_of_getElem? (i := 7) rfl)) (by decide) (by decide)) q73a q73c (g := (mkF m 170 #[.val (.int p0), .val (.long q1), .second, .val (.int p2), .val (.long q3), .second, .val (.int p4), .val (.int p5), .val (.int n), .val (.int vA), .val (.int vB), .val (.int vC), .val (.int (q3.toInt32)), .val (.int (((q3.toUInt64 >>> ((32 : Int32) &&& 0x3f).toInt64.toUInt64).toInt64).toInt32)), .val (.int (p5 &&& (3 : Int32))), .val (.int vQ), .val (.ref b62), .val (.int (1 : Int32))] [(.int vA), (.ref b62)])) rfl (by rw [hml]; rfl) (Steps.refl _) (argsL := [(.int vA)]) (rest := []) (lenOf pd__I_I rfl) rfl (by show 2 * 0 + _ ≤ _; exact Nat.le_of_eq rfl) (hb hby at_170) (fun _ _ => ⟨rfl, rfl, (by decide : 5 + 0 ≤ _), (by decide : 1413 + 0 ≤ _)⟩)
        dsimp only [Pt.U, Pt.locs, Pt.cells, Pt.slots] at X73 l73 y73 z73 st73 hQ73
        subst l73 y73 z73
        obtain ⟨hv73, N73q, e73⟩ := hQ73
        obtain rfl : v73 = some (.int (own_exp vA vA (q3.toInt32) vB (((q3.toUInt64 >>> ((32 : Int32) &&& 0x3f).toInt64.toUInt64).toInt64).toInt32) vC p4)) := hv73.trans (by rw [own_fin ivA ivA ivB ivC])
        have N73 := Fr.app N72 N73q
        refine ogo (fun t k => st73.trans k) ?_
        show OwnEnds _ _ _ _ _ _ _ (T73.setTop (mkF m 173 #[.val (.int p0), .val (.long q1), .second, .val (.int p2), .val (.long q3), .second, .val (.int p4), .val (.int p5), .val (.int n), .val (.int vA), .val (.int vB), .val (.int vC), .val (.int (q3.toInt32)), .val (.int (((q3.toUInt64 >>> ((32 : Int32) &&& 0x3f).toInt64.toUInt64).toInt64).toInt32)), .val (.int (p5 &&& (3 : Int32))), .val (.int vQ), .val (.ref b62), .val (.int (1 : Int32))] [(.int (own_exp vA vA (q3.toInt32) vB (((q3.toUInt64 >>> ((32 : Int32) &&& 0x3f).toInt64.toUInt64).toInt64).toInt32) vC p4))]))
        refine ogo (fun t k => XS.iload X73.here hx rfl (hb hby at_173) rfl k) ?_
        show OwnEnds _ _ _ _ _ _ _ (T73.setTop (mkF m 175 #[.val (.int p0), .val (.long q1), .second, .val (.int p2), .val (.long q3), .second, .val (.int p4), .val (.int p5), .val (.int n), .val (.int vA), .val (.int vB), .val (.int vC), .val (.int (q3.toInt32)), .val (.int (((q3.toUInt64 >>> ((32 : Int32) &&& 0x3f).toInt64.toUInt64).toInt64).toInt32)), .val (.int (p5 &&& (3 : Int32))), .val (.int vQ), .val (.ref b62), .val (.int (1 : Int32))] [(.int vA), (.int (own_exp vA vA (q3.toInt32) vB (((q3.toUInt64 >>> ((32 : Int32) &&& 0x3f).toInt64.toUInt64).toInt64).toInt32) vC p4))]))
        refine ogo (fun t k => XS.iload X73.here hx rfl (hb hby at_175) rfl k) ?_
        show OwnEnds _ _ _ _ _ _ _ (T73.setTop (mkF m 177 #[.val (.int p0), .val (.long q1), .second, .val (.int p2), .val (.long q3), .second, .val (.int p4), .val (.int p5), .val (.int n), .val (.int vA), .val (.int vB), .val (.int vC), .val (.int (q3.toInt32)), .val (.int (((q3.toUInt64 >>> ((32 : Int32) &&& 0x3f).toInt64.toUInt64).toInt64).toInt32)), .val (.int (p5 &&& (3 : Int32))), .val (.int vQ), .val (.ref b62), .val (.int (1 : Int32))] [(.int vA), (.int vA), (.int (own_exp vA vA (q3.toInt32) vB (((q3.toUInt64 >>> ((32 : Int32) &&& 0x3f).toInt64.toUInt64).toInt64).toInt32) vC p4))]))
        refine ogo (fun t k => XS.iload X73.here hx rfl (hb hby at_177) rfl k) ?_
        show OwnEnds _ _ _ _ _ _ _ (T73.setTop (mkF m 179 #[.val (.int p0), .val (.long q1), .second, .val (.int p2), .val (.long q3), .second, .val (.int p4), .val (.int p5), .val (.int n), .val (.int vA), .val (.int vB), .val (.int vC), .val (.int (q3.toInt32)), .val (.int (((q3.toUInt64 >>> ((32 : Int32) &&& 0x3f).toInt64.toUInt64).toInt64).toInt32)), .val (.int (p5 &&& (3 : Int32))), .val (.int vQ), .val (.ref b62), .val (.int (1 : Int32))] [(.int (q3.toInt32)), (.int vA), (.int vA), (.int (own_exp vA vA (q3.toInt32) vB (((q3.toUInt64 >>> ((32 : Int32) &&& 0x3f).toInt64.toUInt64).toInt64).toInt32) vC p4))]))
        refine ogo (fun t k => XS.iload X73.here hx rfl (hb hby at_179) rfl k) ?_
        show OwnEnds _ _ _ _ _ _ _ (T73.setTop (mkF m 181 #[.val (.int p0), .val (.long q1), .second, .val (.int p2), .val (.long q3), .second, .val (.int p4), .val (.int p5), .val (.int n), .val (.int vA), .val (.int vB), .val (.int vC), .val (.int (q3.toInt32)), .val (.int (((q3.toUInt64 >>> ((32 : Int32) &&& 0x3f).toInt64.toUInt64).toInt64).toInt32)), .val (.int (p5 &&& (3 : Int32))), .val (.int vQ), .val (.ref b62), .val (.int (1 : Int32))] [(.int vB), (.int (q3.toInt32)), (.int vA), (.int vA), (.int (own_exp vA vA (q3.toInt32) vB (((q3.toUInt64 >>> ((32 : Int32) &&& 0x3f).toInt64.toUInt64).toInt64).toInt32) vC p4))]))
        refine ogo (fun t k => XS.iload X73.here hx rfl (hb hby at_181) rfl k) ?_
        show OwnEnds _ _ _ _ _ _ _ (T73.setTop (mkF m 183 #[.val (.int p0), .val (.long q1), .second, .val (.int p2), .val (.long q3), .second, .val (.int p4), .val (.int p5), .val (.int n), .val (.int vA), .val (.int vB), .val (.int vC), .val (.int (q3.toInt32)), .val (.int (((q3.toUInt64 >>> ((32 : Int32) &&& 0x3f).toInt64.toUInt64).toInt64).toInt32)), .val (.int (p5 &&& (3 : Int32))), .val (.int vQ), .val (.ref b62), .val (.int (1 : Int32))] [(.int (((q3.toUInt64 >>> ((32 : Int32) &&& 0x3f).toInt64.toUInt64).toInt64).toInt32)), (.int vB), (.int (q3.toInt32)), (.int vA), (.int vA), (.int (own_exp vA vA (q3.toInt32) vB (((q3.toUInt64 >>> ((32 : Int32) &&& 0x3f).toInt64.toUInt64).toInt64).toInt32) vC p4))]))
        refine ogo (fun t k => XS.iload X73.here hx rfl (hb hby at_183) rfl k) ?_
        show OwnEnds _ _ _ _ _ _ _ (T73.setTop (mkF m 185 #[.val (.int p0), .val (.long q1), .second, .val (.int p2), .val (.long q3), .second, .val (.int p4), .val (.int p5), .val (.int n), .val (.int vA), .val (.int vB), .val (.int vC), .val (.int (q3.toInt32)), .val (.int (((q3.toUInt64 >>> ((32 : Int32) &&& 0x3f).toInt64.toUInt64).toInt64).toInt32)), .val (.int (p5 &&& (3 : Int32))), .val (.int vQ), .val (.ref b62), .val (.int (1 : Int32))] [(.int vC), (.int (((q3.toUInt64 >>> ((32 : Int32) &&& 0x3f).toInt64.toUInt64).toInt64).toInt32)), (.int vB), (.int (q3.toInt32)), (.int vA), (.int vA), (.int (own_exp vA vA (q3.toInt32) vB (((q3.toUInt64 >>> ((32 : Int32) &&& 0x3f).toInt64.toUInt64).toInt64).toInt32) vC p4))]))
        refine ogo (fun t k => XS.iload X73.here hx rfl (hb hby at_185) rfl k) ?_
        show OwnEnds _ _ _ _ _ _ _ (T73.setTop (mkF m 187 #[.val (.int p0), .val (.long q1), .second, .val (.int p2), .val (.long q3), .second, .val (.int p4), .val (.int p5), .val (.int n), .val (.int vA), .val (.int vB), .val (.int vC), .val (.int (q3.toInt32)), .val (.int (((q3.toUInt64 >>> ((32 : Int32) &&& 0x3f).toInt64.toUInt64).toInt64).toInt32)), .val (.int (p5 &&& (3 : Int32))), .val (.int vQ), .val (.ref b62), .val (.int (1 : Int32))] [(.int p4), (.int vC), (.int (((q3.toUInt64 >>> ((32 : Int32) &&& 0x3f).toInt64.toUInt64).toInt64).toInt32)), (.int vB), (.int (q3.toInt32)), (.int vA), (.int vA), (.int (own_exp vA vA (q3.toInt32) vB (((q3.toUInt64 >>> ((32 : Int32) &&& 0x3f).toInt64.toUInt64).toInt64).toInt32) vC p4))]))
        obtain ⟨v74, _, ⟨T74, L74, k74, n74⟩, -, X74, ⟨Lc74, hQ74, l74, y74, z74⟩, st74⟩ := Jvm.LawKit.callS X73 hx (y := (⟨"com/example/dispatchwave/dispatchwave/model/VertexLabelsGetPinLaw", "expected", "(IIIIIII)I"⟩ : MethodName)) hown (mvT hZ (hw _ (List.mem_of_getElem? (i := 40) rfl))) (mvT hZ (hw _ (List.mem_of_getElem? (i := 41) rfl))) (mvT hZ (hw _ (List.mem_of_getElem? (i := 2) rfl))) (mvT hZ (hw _ (List.mem_of_getElem? (i := 42) rfl))) (by decide) (backOf (W := 1) (rm7 l Z a0 hw [] vA vA (q3.toInt32) vB (((q3.toUInt64 >>> ((32 : Int32) &&& 0x3f).toInt64.toUInt64).toInt64).toInt32) vC p4 T72.heap n0 Z72 ) hZ (hw _ (List.mem_of_getElem? (i := 42) rfl)) (hw _ (List.mem_of_getElem? (i := 2) rfl)) (by decide) (by decide)) (g := (mkF m 187 #[.val (.int p0), .val (.long q1), .second, .val (.int p2), .val (.long q3), .second, .val (.int p4), .val (.int p5), .val (.int n), .val (.int vA), .val (.int vB), .val (.int vC), .val (.int (q3.toInt32)), .val (.int (((q3.toUInt64 >>> ((32 : Int32) &&& 0x3f).toInt64.toUInt64).toInt64).toInt32)), .val (.int (p5 &&& (3 : Int32))), .val (.int vQ), .val (.ref b62), .val (.int (1 : Int32))] [(.int p4), (.int vC), (.int (((q3.toUInt64 >>> ((32 : Int32) &&& 0x3f).toInt64.toUInt64).toInt64).toInt32)), (.int vB), (.int (q3.toInt32)), (.int vA), (.int vA), (.int (own_exp vA vA (q3.toInt32) vB (((q3.toUInt64 >>> ((32 : Int32) &&& 0x3f).toInt64.toUInt64).toInt64).toInt32) vC p4))])) rfl (by rw [hml]; rfl) (argsL := [(.int vA), (.int vA), (.int (q3.toInt32)), (.int vB), (.int (((q3.toUInt64 >>> ((32 : Int32) &&& 0x3f).toInt64.toUInt64).toInt64).toInt32)), (.int vC), (.int p4)]) (rest := [(.int (own_exp vA vA (q3.toInt32) vB (((q3.toUInt64 >>> ((32 : Int32) &&& 0x3f).toInt64.toUInt64).toInt64).toInt32) vC p4))]) (lenOf pd__IIIIIII_I rfl) rfl (by show 2 * 0 + _ ≤ _; exact Nat.le_of_eq rfl) (hb hby at_187) (fun _ _ => ⟨rfl, e73, (by decide : 5 + 0 ≤ _), (by decide : 1413 + 0 ≤ _)⟩)
        dsimp only [Pt.U, Pt.locs, Pt.cells, Pt.slots] at X74 l74 y74 z74 st74 hQ74
        subst l74 y74 z74
        obtain ⟨rfl, N74q, e74⟩ := hQ74
        have N74 := Fr.app N73 N74q
        refine ogo (fun t k => st74 t k) ?_
        show OwnEnds _ _ _ _ _ _ _ (T74.setTop (mkF m 190 #[.val (.int p0), .val (.long q1), .second, .val (.int p2), .val (.long q3), .second, .val (.int p4), .val (.int p5), .val (.int n), .val (.int vA), .val (.int vB), .val (.int vC), .val (.int (q3.toInt32)), .val (.int (((q3.toUInt64 >>> ((32 : Int32) &&& 0x3f).toInt64.toUInt64).toInt64).toInt32)), .val (.int (p5 &&& (3 : Int32))), .val (.int vQ), .val (.ref b62), .val (.int (1 : Int32))] [(.int (own_exp vA vA (q3.toInt32) vB (((q3.toUInt64 >>> ((32 : Int32) &&& 0x3f).toInt64.toUInt64).toInt64).toInt32) vC p4)), (.int (own_exp vA vA (q3.toInt32) vB (((q3.toUInt64 >>> ((32 : Int32) &&& 0x3f).toInt64.toUInt64).toInt64).toInt32) vC p4))]))
        refine ogo (fun t k => XS.icmpNo X74.here hx rfl (hb hby at_190) rfl (teq (rfl : (own_exp vA vA (q3.toInt32) vB (((q3.toUInt64 >>> ((32 : Int32) &&& 0x3f).toInt64.toUInt64).toInt64).toInt32) vC p4) = (own_exp vA vA (q3.toInt32) vB (((q3.toUInt64 >>> ((32 : Int32) &&& 0x3f).toInt64.toUInt64).toInt64).toInt32) vC p4))).2 k) ?_
        show OwnEnds _ _ _ _ _ _ _ (T74.setTop (mkF m 193 #[.val (.int p0), .val (.long q1), .second, .val (.int p2), .val (.long q3), .second, .val (.int p4), .val (.int p5), .val (.int n), .val (.int vA), .val (.int vB), .val (.int vC), .val (.int (q3.toInt32)), .val (.int (((q3.toUInt64 >>> ((32 : Int32) &&& 0x3f).toInt64.toUInt64).toInt64).toInt32)), .val (.int (p5 &&& (3 : Int32))), .val (.int vQ), .val (.ref b62), .val (.int (1 : Int32))] []))
        refine ogo (fun t k => XS.iconst X74.here hx rfl (hb hby at_193) k) ?_
        show OwnEnds _ _ _ _ _ _ _ (T74.setTop (mkF m 194 #[.val (.int p0), .val (.long q1), .second, .val (.int p2), .val (.long q3), .second, .val (.int p4), .val (.int p5), .val (.int n), .val (.int vA), .val (.int vB), .val (.int vC), .val (.int (q3.toInt32)), .val (.int (((q3.toUInt64 >>> ((32 : Int32) &&& 0x3f).toInt64.toUInt64).toInt64).toInt32)), .val (.int (p5 &&& (3 : Int32))), .val (.int vQ), .val (.ref b62), .val (.int (1 : Int32))] [(.int (1 : Int32))]))
        refine ogo (fun t k => XS.goto X74.here hx rfl (pc0 := 194) (pc' := 198) rfl (hb hby at_194) (by decide) (by decide) k) ?_
        show OwnEnds _ _ _ _ _ _ _ (T74.setTop (mkF m 198 #[.val (.int p0), .val (.long q1), .second, .val (.int p2), .val (.long q3), .second, .val (.int p4), .val (.int p5), .val (.int n), .val (.int vA), .val (.int vB), .val (.int vC), .val (.int (q3.toInt32)), .val (.int (((q3.toUInt64 >>> ((32 : Int32) &&& 0x3f).toInt64.toUInt64).toInt64).toInt32)), .val (.int (p5 &&& (3 : Int32))), .val (.int vQ), .val (.ref b62), .val (.int (1 : Int32))] [(.int (1 : Int32))]))
        refine ogo (fun t k => XS.istore X74.here hx rfl (hb hby at_198) rfl (l' := #[.val (.int p0), .val (.long q1), .second, .val (.int p2), .val (.long q3), .second, .val (.int p4), .val (.int p5), .val (.int n), .val (.int vA), .val (.int vB), .val (.int vC), .val (.int (q3.toInt32)), .val (.int (((q3.toUInt64 >>> ((32 : Int32) &&& 0x3f).toInt64.toUInt64).toInt64).toInt32)), .val (.int (p5 &&& (3 : Int32))), .val (.int vQ), .val (.ref b62), .val (.int (1 : Int32))]) rfl k) ?_
        show OwnEnds _ _ _ _ _ _ _ (T74.setTop (mkF m 200 #[.val (.int p0), .val (.long q1), .second, .val (.int p2), .val (.long q3), .second, .val (.int p4), .val (.int p5), .val (.int n), .val (.int vA), .val (.int vB), .val (.int vC), .val (.int (q3.toInt32)), .val (.int (((q3.toUInt64 >>> ((32 : Int32) &&& 0x3f).toInt64.toUInt64).toInt64).toInt32)), .val (.int (p5 &&& (3 : Int32))), .val (.int vQ), .val (.ref b62), .val (.int (1 : Int32))] []))
        refine ogo (fun t k => XS.iload X74.here hx rfl (hb hby at_200) rfl k) ?_
        show OwnEnds _ _ _ _ _ _ _ (T74.setTop (mkF m 202 #[.val (.int p0), .val (.long q1), .second, .val (.int p2), .val (.long q3), .second, .val (.int p4), .val (.int p5), .val (.int n), .val (.int vA), .val (.int vB), .val (.int vC), .val (.int (q3.toInt32)), .val (.int (((q3.toUInt64 >>> ((32 : Int32) &&& 0x3f).toInt64.toUInt64).toInt64).toInt32)), .val (.int (p5 &&& (3 : Int32))), .val (.int vQ), .val (.ref b62), .val (.int (1 : Int32))] [(.int (1 : Int32))]))
        refine ogo (fun t k => XS.ifNo X74.here hx rfl (hb hby at_202) rfl ((if0 _ _).trans (feq (by decide : ¬ ((1 : Int32) = (0 : Int32)))).1) k) ?_
        show OwnEnds _ _ _ _ _ _ _ (T74.setTop (mkF m 205 #[.val (.int p0), .val (.long q1), .second, .val (.int p2), .val (.long q3), .second, .val (.int p4), .val (.int p5), .val (.int n), .val (.int vA), .val (.int vB), .val (.int vC), .val (.int (q3.toInt32)), .val (.int (((q3.toUInt64 >>> ((32 : Int32) &&& 0x3f).toInt64.toUInt64).toInt64).toInt32)), .val (.int (p5 &&& (3 : Int32))), .val (.int vQ), .val (.ref b62), .val (.int (1 : Int32))] []))
        refine ogo (fun t k => XS.aload X74.here hx rfl (hb hby at_205) rfl rfl k) ?_
        show OwnEnds _ _ _ _ _ _ _ (T74.setTop (mkF m 207 #[.val (.int p0), .val (.long q1), .second, .val (.int p2), .val (.long q3), .second, .val (.int p4), .val (.int p5), .val (.int n), .val (.int vA), .val (.int vB), .val (.int vC), .val (.int (q3.toInt32)), .val (.int (((q3.toUInt64 >>> ((32 : Int32) &&& 0x3f).toInt64.toUInt64).toInt64).toInt32)), .val (.int (p5 &&& (3 : Int32))), .val (.int vQ), .val (.ref b62), .val (.int (1 : Int32))] [(.ref b62)]))
        refine ogo (fun t k => XS.iload X74.here hx rfl (hb hby at_207) rfl k) ?_
        show OwnEnds _ _ _ _ _ _ _ (T74.setTop (mkF m 209 #[.val (.int p0), .val (.long q1), .second, .val (.int p2), .val (.long q3), .second, .val (.int p4), .val (.int p5), .val (.int n), .val (.int vA), .val (.int vB), .val (.int vC), .val (.int (q3.toInt32)), .val (.int (((q3.toUInt64 >>> ((32 : Int32) &&& 0x3f).toInt64.toUInt64).toInt64).toInt32)), .val (.int (p5 &&& (3 : Int32))), .val (.int vQ), .val (.ref b62), .val (.int (1 : Int32))] [(.int vB), (.ref b62)]))
        obtain ⟨cq75, kq75, q75a, q75b, q75c⟩ := isOf hZ e74 E72a
        obtain ⟨v75, _, ⟨T75, L75, k75, n75⟩, -, X75, ⟨Lc75, hQ75, l75, y75, z75⟩, st75⟩ := X74.virtualBack hx (y := (⟨"com/example/dispatchwave/dispatchwave/model/VertexLabels", "get", "(I)I"⟩ : MethodName)) (z := (⟨"com/example/dispatchwave/dispatchwave/model/VertexLabels", "get", "(I)I"⟩ : MethodName)) hown (mvT hZ (hw _ (List.mem_of_getElem? (i := 20) rfl))) (mvT hZ (hw _ (List.mem_of_getElem? (i := 21) rfl))) (notFace_of_selects (args := #[]) (mvT hZ (hw _ (List.mem_of_getElem? (i := 23) rfl)))) (mvT hZ (hw _ (List.mem_of_getElem? (i := 23) rfl))) (mvT hZ (hw _ (List.mem_of_getElem? (i := 22) rfl))) (by decide) (backOf (W := 0) (rm2 l Z a0 hw [] b62 vB n (fupd (fupd (fupd (fun _ => 0) vA.toInt.toNat (q3.toInt32)) vB.toInt.toNat (((q3.toUInt64 >>> ((32 : Int32) &&& 0x3f).toInt64.toUInt64).toInt64).toInt32)) vC.toInt.toNat p4) _ T72.heap n0 Z72 hL72 hn ivB) hZ (hw _ (List.mem_of_getElem? (i := 24) rfl)) (hw _ (List.mem_of_getElem? (i := 7) rfl)) (by decide) (by decide)) q75a q75c (g := (mkF m 209 #[.val (.int p0), .val (.long q1), .second, .val (.int p2), .val (.long q3), .second, .val (.int p4), .val (.int p5), .val (.int n), .val (.int vA), .val (.int vB), .val (.int vC), .val (.int (q3.toInt32)), .val (.int (((q3.toUInt64 >>> ((32 : Int32) &&& 0x3f).toInt64.toUInt64).toInt64).toInt32)), .val (.int (p5 &&& (3 : Int32))), .val (.int vQ), .val (.ref b62), .val (.int (1 : Int32))] [(.int vB), (.ref b62)])) rfl (by rw [hml]; rfl) (Steps.refl _) (argsL := [(.int vB)]) (rest := []) (lenOf pd__I_I rfl) rfl (by show 2 * 0 + _ ≤ _; exact Nat.le_of_eq rfl) (hb hby at_209) (fun _ _ => ⟨rfl, e74, (by decide : 5 + 0 ≤ _), (by decide : 1413 + 0 ≤ _)⟩)
        dsimp only [Pt.U, Pt.locs, Pt.cells, Pt.slots] at X75 l75 y75 z75 st75 hQ75
        subst l75 y75 z75
        obtain ⟨hv75, N75q, e75⟩ := hQ75
        obtain rfl : v75 = some (.int (own_exp vB vA (q3.toInt32) vB (((q3.toUInt64 >>> ((32 : Int32) &&& 0x3f).toInt64.toUInt64).toInt64).toInt32) vC p4)) := hv75.trans (by rw [own_fin ivB ivA ivB ivC])
        have N75 := Fr.app N74 N75q
        refine ogo (fun t k => st75.trans k) ?_
        show OwnEnds _ _ _ _ _ _ _ (T75.setTop (mkF m 212 #[.val (.int p0), .val (.long q1), .second, .val (.int p2), .val (.long q3), .second, .val (.int p4), .val (.int p5), .val (.int n), .val (.int vA), .val (.int vB), .val (.int vC), .val (.int (q3.toInt32)), .val (.int (((q3.toUInt64 >>> ((32 : Int32) &&& 0x3f).toInt64.toUInt64).toInt64).toInt32)), .val (.int (p5 &&& (3 : Int32))), .val (.int vQ), .val (.ref b62), .val (.int (1 : Int32))] [(.int (own_exp vB vA (q3.toInt32) vB (((q3.toUInt64 >>> ((32 : Int32) &&& 0x3f).toInt64.toUInt64).toInt64).toInt32) vC p4))]))
        refine ogo (fun t k => XS.iload X75.here hx rfl (hb hby at_212) rfl k) ?_
        show OwnEnds _ _ _ _ _ _ _ (T75.setTop (mkF m 214 #[.val (.int p0), .val (.long q1), .second, .val (.int p2), .val (.long q3), .second, .val (.int p4), .val (.int p5), .val (.int n), .val (.int vA), .val (.int vB), .val (.int vC), .val (.int (q3.toInt32)), .val (.int (((q3.toUInt64 >>> ((32 : Int32) &&& 0x3f).toInt64.toUInt64).toInt64).toInt32)), .val (.int (p5 &&& (3 : Int32))), .val (.int vQ), .val (.ref b62), .val (.int (1 : Int32))] [(.int vB), (.int (own_exp vB vA (q3.toInt32) vB (((q3.toUInt64 >>> ((32 : Int32) &&& 0x3f).toInt64.toUInt64).toInt64).toInt32) vC p4))]))
        refine ogo (fun t k => XS.iload X75.here hx rfl (hb hby at_214) rfl k) ?_
        show OwnEnds _ _ _ _ _ _ _ (T75.setTop (mkF m 216 #[.val (.int p0), .val (.long q1), .second, .val (.int p2), .val (.long q3), .second, .val (.int p4), .val (.int p5), .val (.int n), .val (.int vA), .val (.int vB), .val (.int vC), .val (.int (q3.toInt32)), .val (.int (((q3.toUInt64 >>> ((32 : Int32) &&& 0x3f).toInt64.toUInt64).toInt64).toInt32)), .val (.int (p5 &&& (3 : Int32))), .val (.int vQ), .val (.ref b62), .val (.int (1 : Int32))] [(.int vA), (.int vB), (.int (own_exp vB vA (q3.toInt32) vB (((q3.toUInt64 >>> ((32 : Int32) &&& 0x3f).toInt64.toUInt64).toInt64).toInt32) vC p4))]))
        refine ogo (fun t k => XS.iload X75.here hx rfl (hb hby at_216) rfl k) ?_
        show OwnEnds _ _ _ _ _ _ _ (T75.setTop (mkF m 218 #[.val (.int p0), .val (.long q1), .second, .val (.int p2), .val (.long q3), .second, .val (.int p4), .val (.int p5), .val (.int n), .val (.int vA), .val (.int vB), .val (.int vC), .val (.int (q3.toInt32)), .val (.int (((q3.toUInt64 >>> ((32 : Int32) &&& 0x3f).toInt64.toUInt64).toInt64).toInt32)), .val (.int (p5 &&& (3 : Int32))), .val (.int vQ), .val (.ref b62), .val (.int (1 : Int32))] [(.int (q3.toInt32)), (.int vA), (.int vB), (.int (own_exp vB vA (q3.toInt32) vB (((q3.toUInt64 >>> ((32 : Int32) &&& 0x3f).toInt64.toUInt64).toInt64).toInt32) vC p4))]))
        refine ogo (fun t k => XS.iload X75.here hx rfl (hb hby at_218) rfl k) ?_
        show OwnEnds _ _ _ _ _ _ _ (T75.setTop (mkF m 220 #[.val (.int p0), .val (.long q1), .second, .val (.int p2), .val (.long q3), .second, .val (.int p4), .val (.int p5), .val (.int n), .val (.int vA), .val (.int vB), .val (.int vC), .val (.int (q3.toInt32)), .val (.int (((q3.toUInt64 >>> ((32 : Int32) &&& 0x3f).toInt64.toUInt64).toInt64).toInt32)), .val (.int (p5 &&& (3 : Int32))), .val (.int vQ), .val (.ref b62), .val (.int (1 : Int32))] [(.int vB), (.int (q3.toInt32)), (.int vA), (.int vB), (.int (own_exp vB vA (q3.toInt32) vB (((q3.toUInt64 >>> ((32 : Int32) &&& 0x3f).toInt64.toUInt64).toInt64).toInt32) vC p4))]))
        refine ogo (fun t k => XS.iload X75.here hx rfl (hb hby at_220) rfl k) ?_
        show OwnEnds _ _ _ _ _ _ _ (T75.setTop (mkF m 222 #[.val (.int p0), .val (.long q1), .second, .val (.int p2), .val (.long q3), .second, .val (.int p4), .val (.int p5), .val (.int n), .val (.int vA), .val (.int vB), .val (.int vC), .val (.int (q3.toInt32)), .val (.int (((q3.toUInt64 >>> ((32 : Int32) &&& 0x3f).toInt64.toUInt64).toInt64).toInt32)), .val (.int (p5 &&& (3 : Int32))), .val (.int vQ), .val (.ref b62), .val (.int (1 : Int32))] [(.int (((q3.toUInt64 >>> ((32 : Int32) &&& 0x3f).toInt64.toUInt64).toInt64).toInt32)), (.int vB), (.int (q3.toInt32)), (.int vA), (.int vB), (.int (own_exp vB vA (q3.toInt32) vB (((q3.toUInt64 >>> ((32 : Int32) &&& 0x3f).toInt64.toUInt64).toInt64).toInt32) vC p4))]))
        refine ogo (fun t k => XS.iload X75.here hx rfl (hb hby at_222) rfl k) ?_
        show OwnEnds _ _ _ _ _ _ _ (T75.setTop (mkF m 224 #[.val (.int p0), .val (.long q1), .second, .val (.int p2), .val (.long q3), .second, .val (.int p4), .val (.int p5), .val (.int n), .val (.int vA), .val (.int vB), .val (.int vC), .val (.int (q3.toInt32)), .val (.int (((q3.toUInt64 >>> ((32 : Int32) &&& 0x3f).toInt64.toUInt64).toInt64).toInt32)), .val (.int (p5 &&& (3 : Int32))), .val (.int vQ), .val (.ref b62), .val (.int (1 : Int32))] [(.int vC), (.int (((q3.toUInt64 >>> ((32 : Int32) &&& 0x3f).toInt64.toUInt64).toInt64).toInt32)), (.int vB), (.int (q3.toInt32)), (.int vA), (.int vB), (.int (own_exp vB vA (q3.toInt32) vB (((q3.toUInt64 >>> ((32 : Int32) &&& 0x3f).toInt64.toUInt64).toInt64).toInt32) vC p4))]))
        refine ogo (fun t k => XS.iload X75.here hx rfl (hb hby at_224) rfl k) ?_
        show OwnEnds _ _ _ _ _ _ _ (T75.setTop (mkF m 226 #[.val (.int p0), .val (.long q1), .second, .val (.int p2), .val (.long q3), .second, .val (.int p4), .val (.int p5), .val (.int n), .val (.int vA), .val (.int vB), .val (.int vC), .val (.int (q3.toInt32)), .val (.int (((q3.toUInt64 >>> ((32 : Int32) &&& 0x3f).toInt64.toUInt64).toInt64).toInt32)), .val (.int (p5 &&& (3 : Int32))), .val (.int vQ), .val (.ref b62), .val (.int (1 : Int32))] [(.int p4), (.int vC), (.int (((q3.toUInt64 >>> ((32 : Int32) &&& 0x3f).toInt64.toUInt64).toInt64).toInt32)), (.int vB), (.int (q3.toInt32)), (.int vA), (.int vB), (.int (own_exp vB vA (q3.toInt32) vB (((q3.toUInt64 >>> ((32 : Int32) &&& 0x3f).toInt64.toUInt64).toInt64).toInt32) vC p4))]))
        obtain ⟨v76, _, ⟨T76, L76, k76, n76⟩, -, X76, ⟨Lc76, hQ76, l76, y76, z76⟩, st76⟩ := Jvm.LawKit.callS X75 hx (y := (⟨"com/example/dispatchwave/dispatchwave/model/VertexLabelsGetPinLaw", "expected", "(IIIIIII)I"⟩ : MethodName)) hown (mvT hZ (hw _ (List.mem_of_getElem? (i := 40) rfl))) (mvT hZ (hw _ (List.mem_of_getElem? (i := 41) rfl))) (mvT hZ (hw _ (List.mem_of_getElem? (i := 2) rfl))) (mvT hZ (hw _ (List.mem_of_getElem? (i := 42) rfl))) (by decide) (backOf (W := 1) (rm7 l Z a0 hw [] vB vA (q3.toInt32) vB (((q3.toUInt64 >>> ((32 : Int32) &&& 0x3f).toInt64.toUInt64).toInt64).toInt32) vC p4 T72.heap n0 Z72 ) hZ (hw _ (List.mem_of_getElem? (i := 42) rfl)) (hw _ (List.mem_of_getElem? (i := 2) rfl)) (by decide) (by decide)) (g := (mkF m 226 #[.val (.int p0), .val (.long q1), .second, .val (.int p2), .val (.long q3), .second, .val (.int p4), .val (.int p5), .val (.int n), .val (.int vA), .val (.int vB), .val (.int vC), .val (.int (q3.toInt32)), .val (.int (((q3.toUInt64 >>> ((32 : Int32) &&& 0x3f).toInt64.toUInt64).toInt64).toInt32)), .val (.int (p5 &&& (3 : Int32))), .val (.int vQ), .val (.ref b62), .val (.int (1 : Int32))] [(.int p4), (.int vC), (.int (((q3.toUInt64 >>> ((32 : Int32) &&& 0x3f).toInt64.toUInt64).toInt64).toInt32)), (.int vB), (.int (q3.toInt32)), (.int vA), (.int vB), (.int (own_exp vB vA (q3.toInt32) vB (((q3.toUInt64 >>> ((32 : Int32) &&& 0x3f).toInt64.toUInt64).toInt64).toInt32) vC p4))])) rfl (by rw [hml]; rfl) (argsL := [(.int vB), (.int vA), (.int (q3.toInt32)), (.int vB), (.int (((q3.toUInt64 >>> ((32 : Int32) &&& 0x3f).toInt64.toUInt64).toInt64).toInt32)), (.int vC), (.int p4)]) (rest := [(.int (own_exp vB vA (q3.toInt32) vB (((q3.toUInt64 >>> ((32 : Int32) &&& 0x3f).toInt64.toUInt64).toInt64).toInt32) vC p4))]) (lenOf pd__IIIIIII_I rfl) rfl (by show 2 * 0 + _ ≤ _; exact Nat.le_of_eq rfl) (hb hby at_226) (fun _ _ => ⟨rfl, e75, (by decide : 5 + 0 ≤ _), (by decide : 1413 + 0 ≤ _)⟩)
        dsimp only [Pt.U, Pt.locs, Pt.cells, Pt.slots] at X76 l76 y76 z76 st76 hQ76
        subst l76 y76 z76
        obtain ⟨rfl, N76q, e76⟩ := hQ76
        have N76 := Fr.app N75 N76q
        refine ogo (fun t k => st76 t k) ?_
        show OwnEnds _ _ _ _ _ _ _ (T76.setTop (mkF m 229 #[.val (.int p0), .val (.long q1), .second, .val (.int p2), .val (.long q3), .second, .val (.int p4), .val (.int p5), .val (.int n), .val (.int vA), .val (.int vB), .val (.int vC), .val (.int (q3.toInt32)), .val (.int (((q3.toUInt64 >>> ((32 : Int32) &&& 0x3f).toInt64.toUInt64).toInt64).toInt32)), .val (.int (p5 &&& (3 : Int32))), .val (.int vQ), .val (.ref b62), .val (.int (1 : Int32))] [(.int (own_exp vB vA (q3.toInt32) vB (((q3.toUInt64 >>> ((32 : Int32) &&& 0x3f).toInt64.toUInt64).toInt64).toInt32) vC p4)), (.int (own_exp vB vA (q3.toInt32) vB (((q3.toUInt64 >>> ((32 : Int32) &&& 0x3f).toInt64.toUInt64).toInt64).toInt32) vC p4))]))
        refine ogo (fun t k => XS.icmpNo X76.here hx rfl (hb hby at_229) rfl (teq (rfl : (own_exp vB vA (q3.toInt32) vB (((q3.toUInt64 >>> ((32 : Int32) &&& 0x3f).toInt64.toUInt64).toInt64).toInt32) vC p4) = (own_exp vB vA (q3.toInt32) vB (((q3.toUInt64 >>> ((32 : Int32) &&& 0x3f).toInt64.toUInt64).toInt64).toInt32) vC p4))).2 k) ?_
        show OwnEnds _ _ _ _ _ _ _ (T76.setTop (mkF m 232 #[.val (.int p0), .val (.long q1), .second, .val (.int p2), .val (.long q3), .second, .val (.int p4), .val (.int p5), .val (.int n), .val (.int vA), .val (.int vB), .val (.int vC), .val (.int (q3.toInt32)), .val (.int (((q3.toUInt64 >>> ((32 : Int32) &&& 0x3f).toInt64.toUInt64).toInt64).toInt32)), .val (.int (p5 &&& (3 : Int32))), .val (.int vQ), .val (.ref b62), .val (.int (1 : Int32))] []))
        refine ogo (fun t k => XS.iconst X76.here hx rfl (hb hby at_232) k) ?_
        show OwnEnds _ _ _ _ _ _ _ (T76.setTop (mkF m 233 #[.val (.int p0), .val (.long q1), .second, .val (.int p2), .val (.long q3), .second, .val (.int p4), .val (.int p5), .val (.int n), .val (.int vA), .val (.int vB), .val (.int vC), .val (.int (q3.toInt32)), .val (.int (((q3.toUInt64 >>> ((32 : Int32) &&& 0x3f).toInt64.toUInt64).toInt64).toInt32)), .val (.int (p5 &&& (3 : Int32))), .val (.int vQ), .val (.ref b62), .val (.int (1 : Int32))] [(.int (1 : Int32))]))
        refine ogo (fun t k => XS.goto X76.here hx rfl (pc0 := 233) (pc' := 237) rfl (hb hby at_233) (by decide) (by decide) k) ?_
        show OwnEnds _ _ _ _ _ _ _ (T76.setTop (mkF m 237 #[.val (.int p0), .val (.long q1), .second, .val (.int p2), .val (.long q3), .second, .val (.int p4), .val (.int p5), .val (.int n), .val (.int vA), .val (.int vB), .val (.int vC), .val (.int (q3.toInt32)), .val (.int (((q3.toUInt64 >>> ((32 : Int32) &&& 0x3f).toInt64.toUInt64).toInt64).toInt32)), .val (.int (p5 &&& (3 : Int32))), .val (.int vQ), .val (.ref b62), .val (.int (1 : Int32))] [(.int (1 : Int32))]))
        refine ogo (fun t k => XS.istore X76.here hx rfl (hb hby at_237) rfl (l' := #[.val (.int p0), .val (.long q1), .second, .val (.int p2), .val (.long q3), .second, .val (.int p4), .val (.int p5), .val (.int n), .val (.int vA), .val (.int vB), .val (.int vC), .val (.int (q3.toInt32)), .val (.int (((q3.toUInt64 >>> ((32 : Int32) &&& 0x3f).toInt64.toUInt64).toInt64).toInt32)), .val (.int (p5 &&& (3 : Int32))), .val (.int vQ), .val (.ref b62), .val (.int (1 : Int32))]) rfl k) ?_
        show OwnEnds _ _ _ _ _ _ _ (T76.setTop (mkF m 239 #[.val (.int p0), .val (.long q1), .second, .val (.int p2), .val (.long q3), .second, .val (.int p4), .val (.int p5), .val (.int n), .val (.int vA), .val (.int vB), .val (.int vC), .val (.int (q3.toInt32)), .val (.int (((q3.toUInt64 >>> ((32 : Int32) &&& 0x3f).toInt64.toUInt64).toInt64).toInt32)), .val (.int (p5 &&& (3 : Int32))), .val (.int vQ), .val (.ref b62), .val (.int (1 : Int32))] []))
        refine ogo (fun t k => XS.iload X76.here hx rfl (hb hby at_239) rfl k) ?_
        show OwnEnds _ _ _ _ _ _ _ (T76.setTop (mkF m 241 #[.val (.int p0), .val (.long q1), .second, .val (.int p2), .val (.long q3), .second, .val (.int p4), .val (.int p5), .val (.int n), .val (.int vA), .val (.int vB), .val (.int vC), .val (.int (q3.toInt32)), .val (.int (((q3.toUInt64 >>> ((32 : Int32) &&& 0x3f).toInt64.toUInt64).toInt64).toInt32)), .val (.int (p5 &&& (3 : Int32))), .val (.int vQ), .val (.ref b62), .val (.int (1 : Int32))] [(.int (1 : Int32))]))
        refine ogo (fun t k => XS.ifNo X76.here hx rfl (hb hby at_241) rfl ((if0 _ _).trans (feq (by decide : ¬ ((1 : Int32) = (0 : Int32)))).1) k) ?_
        show OwnEnds _ _ _ _ _ _ _ (T76.setTop (mkF m 244 #[.val (.int p0), .val (.long q1), .second, .val (.int p2), .val (.long q3), .second, .val (.int p4), .val (.int p5), .val (.int n), .val (.int vA), .val (.int vB), .val (.int vC), .val (.int (q3.toInt32)), .val (.int (((q3.toUInt64 >>> ((32 : Int32) &&& 0x3f).toInt64.toUInt64).toInt64).toInt32)), .val (.int (p5 &&& (3 : Int32))), .val (.int vQ), .val (.ref b62), .val (.int (1 : Int32))] []))
        refine ogo (fun t k => XS.aload X76.here hx rfl (hb hby at_244) rfl rfl k) ?_
        show OwnEnds _ _ _ _ _ _ _ (T76.setTop (mkF m 246 #[.val (.int p0), .val (.long q1), .second, .val (.int p2), .val (.long q3), .second, .val (.int p4), .val (.int p5), .val (.int n), .val (.int vA), .val (.int vB), .val (.int vC), .val (.int (q3.toInt32)), .val (.int (((q3.toUInt64 >>> ((32 : Int32) &&& 0x3f).toInt64.toUInt64).toInt64).toInt32)), .val (.int (p5 &&& (3 : Int32))), .val (.int vQ), .val (.ref b62), .val (.int (1 : Int32))] [(.ref b62)]))
        refine ogo (fun t k => XS.iload X76.here hx rfl (hb hby at_246) rfl k) ?_
        show OwnEnds _ _ _ _ _ _ _ (T76.setTop (mkF m 248 #[.val (.int p0), .val (.long q1), .second, .val (.int p2), .val (.long q3), .second, .val (.int p4), .val (.int p5), .val (.int n), .val (.int vA), .val (.int vB), .val (.int vC), .val (.int (q3.toInt32)), .val (.int (((q3.toUInt64 >>> ((32 : Int32) &&& 0x3f).toInt64.toUInt64).toInt64).toInt32)), .val (.int (p5 &&& (3 : Int32))), .val (.int vQ), .val (.ref b62), .val (.int (1 : Int32))] [(.int vC), (.ref b62)]))
        obtain ⟨cq77, kq77, q77a, q77b, q77c⟩ := isOf hZ e76 E72a
        obtain ⟨v77, _, ⟨T77, L77, k77, n77⟩, -, X77, ⟨Lc77, hQ77, l77, y77, z77⟩, st77⟩ := X76.virtualBack hx (y := (⟨"com/example/dispatchwave/dispatchwave/model/VertexLabels", "get", "(I)I"⟩ : MethodName)) (z := (⟨"com/example/dispatchwave/dispatchwave/model/VertexLabels", "get", "(I)I"⟩ : MethodName)) hown (mvT hZ (hw _ (List.mem_of_getElem? (i := 20) rfl))) (mvT hZ (hw _ (List.mem_of_getElem? (i := 21) rfl))) (notFace_of_selects (args := #[]) (mvT hZ (hw _ (List.mem_of_getElem? (i := 23) rfl)))) (mvT hZ (hw _ (List.mem_of_getElem? (i := 23) rfl))) (mvT hZ (hw _ (List.mem_of_getElem? (i := 22) rfl))) (by decide) (backOf (W := 0) (rm2 l Z a0 hw [] b62 vC n (fupd (fupd (fupd (fun _ => 0) vA.toInt.toNat (q3.toInt32)) vB.toInt.toNat (((q3.toUInt64 >>> ((32 : Int32) &&& 0x3f).toInt64.toUInt64).toInt64).toInt32)) vC.toInt.toNat p4) _ T72.heap n0 Z72 hL72 hn ivC) hZ (hw _ (List.mem_of_getElem? (i := 24) rfl)) (hw _ (List.mem_of_getElem? (i := 7) rfl)) (by decide) (by decide)) q77a q77c (g := (mkF m 248 #[.val (.int p0), .val (.long q1), .second, .val (.int p2), .val (.long q3), .second, .val (.int p4), .val (.int p5), .val (.int n), .val (.int vA), .val (.int vB), .val (.int vC), .val (.int (q3.toInt32)), .val (.int (((q3.toUInt64 >>> ((32 : Int32) &&& 0x3f).toInt64.toUInt64).toInt64).toInt32)), .val (.int (p5 &&& (3 : Int32))), .val (.int vQ), .val (.ref b62), .val (.int (1 : Int32))] [(.int vC), (.ref b62)])) rfl (by rw [hml]; rfl) (Steps.refl _) (argsL := [(.int vC)]) (rest := []) (lenOf pd__I_I rfl) rfl (by show 2 * 0 + _ ≤ _; exact Nat.le_of_eq rfl) (hb hby at_248) (fun _ _ => ⟨rfl, e76, (by decide : 5 + 0 ≤ _), (by decide : 1413 + 0 ≤ _)⟩)
        dsimp only [Pt.U, Pt.locs, Pt.cells, Pt.slots] at X77 l77 y77 z77 st77 hQ77
        subst l77 y77 z77
        obtain ⟨hv77, N77q, e77⟩ := hQ77
        obtain rfl : v77 = some (.int p4) := hv77.trans (by rw [own_fin3])
        have N77 := Fr.app N76 N77q
        refine ogo (fun t k => st77.trans k) ?_
        show OwnEnds _ _ _ _ _ _ _ (T77.setTop (mkF m 251 #[.val (.int p0), .val (.long q1), .second, .val (.int p2), .val (.long q3), .second, .val (.int p4), .val (.int p5), .val (.int n), .val (.int vA), .val (.int vB), .val (.int vC), .val (.int (q3.toInt32)), .val (.int (((q3.toUInt64 >>> ((32 : Int32) &&& 0x3f).toInt64.toUInt64).toInt64).toInt32)), .val (.int (p5 &&& (3 : Int32))), .val (.int vQ), .val (.ref b62), .val (.int (1 : Int32))] [(.int p4)]))
        refine ogo (fun t k => XS.iload X77.here hx rfl (hb hby at_251) rfl k) ?_
        show OwnEnds _ _ _ _ _ _ _ (T77.setTop (mkF m 253 #[.val (.int p0), .val (.long q1), .second, .val (.int p2), .val (.long q3), .second, .val (.int p4), .val (.int p5), .val (.int n), .val (.int vA), .val (.int vB), .val (.int vC), .val (.int (q3.toInt32)), .val (.int (((q3.toUInt64 >>> ((32 : Int32) &&& 0x3f).toInt64.toUInt64).toInt64).toInt32)), .val (.int (p5 &&& (3 : Int32))), .val (.int vQ), .val (.ref b62), .val (.int (1 : Int32))] [(.int p4), (.int p4)]))
        refine ogo (fun t k => XS.icmpNo X77.here hx rfl (hb hby at_253) rfl (teq (rfl : p4 = p4)).2 k) ?_
        show OwnEnds _ _ _ _ _ _ _ (T77.setTop (mkF m 256 #[.val (.int p0), .val (.long q1), .second, .val (.int p2), .val (.long q3), .second, .val (.int p4), .val (.int p5), .val (.int n), .val (.int vA), .val (.int vB), .val (.int vC), .val (.int (q3.toInt32)), .val (.int (((q3.toUInt64 >>> ((32 : Int32) &&& 0x3f).toInt64.toUInt64).toInt64).toInt32)), .val (.int (p5 &&& (3 : Int32))), .val (.int vQ), .val (.ref b62), .val (.int (1 : Int32))] []))
        refine ogo (fun t k => XS.iconst X77.here hx rfl (hb hby at_256) k) ?_
        show OwnEnds _ _ _ _ _ _ _ (T77.setTop (mkF m 257 #[.val (.int p0), .val (.long q1), .second, .val (.int p2), .val (.long q3), .second, .val (.int p4), .val (.int p5), .val (.int n), .val (.int vA), .val (.int vB), .val (.int vC), .val (.int (q3.toInt32)), .val (.int (((q3.toUInt64 >>> ((32 : Int32) &&& 0x3f).toInt64.toUInt64).toInt64).toInt32)), .val (.int (p5 &&& (3 : Int32))), .val (.int vQ), .val (.ref b62), .val (.int (1 : Int32))] [(.int (1 : Int32))]))
        refine ogo (fun t k => XS.goto X77.here hx rfl (pc0 := 257) (pc' := 261) rfl (hb hby at_257) (by decide) (by decide) k) ?_
        show OwnEnds _ _ _ _ _ _ _ (T77.setTop (mkF m 261 #[.val (.int p0), .val (.long q1), .second, .val (.int p2), .val (.long q3), .second, .val (.int p4), .val (.int p5), .val (.int n), .val (.int vA), .val (.int vB), .val (.int vC), .val (.int (q3.toInt32)), .val (.int (((q3.toUInt64 >>> ((32 : Int32) &&& 0x3f).toInt64.toUInt64).toInt64).toInt32)), .val (.int (p5 &&& (3 : Int32))), .val (.int vQ), .val (.ref b62), .val (.int (1 : Int32))] [(.int (1 : Int32))]))
        refine ogo (fun t k => XS.istore X77.here hx rfl (hb hby at_261) rfl (l' := #[.val (.int p0), .val (.long q1), .second, .val (.int p2), .val (.long q3), .second, .val (.int p4), .val (.int p5), .val (.int n), .val (.int vA), .val (.int vB), .val (.int vC), .val (.int (q3.toInt32)), .val (.int (((q3.toUInt64 >>> ((32 : Int32) &&& 0x3f).toInt64.toUInt64).toInt64).toInt32)), .val (.int (p5 &&& (3 : Int32))), .val (.int vQ), .val (.ref b62), .val (.int (1 : Int32))]) rfl k) ?_
        show OwnEnds _ _ _ _ _ _ _ (T77.setTop (mkF m 263 #[.val (.int p0), .val (.long q1), .second, .val (.int p2), .val (.long q3), .second, .val (.int p4), .val (.int p5), .val (.int n), .val (.int vA), .val (.int vB), .val (.int vC), .val (.int (q3.toInt32)), .val (.int (((q3.toUInt64 >>> ((32 : Int32) &&& 0x3f).toInt64.toUInt64).toInt64).toInt32)), .val (.int (p5 &&& (3 : Int32))), .val (.int vQ), .val (.ref b62), .val (.int (1 : Int32))] []))
        refine ogo (fun t k => XS.iload X77.here hx rfl (hb hby at_263) rfl k) ?_
        show OwnEnds _ _ _ _ _ _ _ (T77.setTop (mkF m 265 #[.val (.int p0), .val (.long q1), .second, .val (.int p2), .val (.long q3), .second, .val (.int p4), .val (.int p5), .val (.int n), .val (.int vA), .val (.int vB), .val (.int vC), .val (.int (q3.toInt32)), .val (.int (((q3.toUInt64 >>> ((32 : Int32) &&& 0x3f).toInt64.toUInt64).toInt64).toInt32)), .val (.int (p5 &&& (3 : Int32))), .val (.int vQ), .val (.ref b62), .val (.int (1 : Int32))] [(.int (1 : Int32))]))
        refine ogo (fun t k => XS.ifNo X77.here hx rfl (hb hby at_265) rfl ((if0 _ _).trans (feq (by decide : ¬ ((1 : Int32) = (0 : Int32)))).1) k) ?_
        show OwnEnds _ _ _ _ _ _ _ (T77.setTop (mkF m 268 #[.val (.int p0), .val (.long q1), .second, .val (.int p2), .val (.long q3), .second, .val (.int p4), .val (.int p5), .val (.int n), .val (.int vA), .val (.int vB), .val (.int vC), .val (.int (q3.toInt32)), .val (.int (((q3.toUInt64 >>> ((32 : Int32) &&& 0x3f).toInt64.toUInt64).toInt64).toInt32)), .val (.int (p5 &&& (3 : Int32))), .val (.int vQ), .val (.ref b62), .val (.int (1 : Int32))] []))
        refine ogo (fun t k => XS.aload X77.here hx rfl (hb hby at_268) rfl rfl k) ?_
        show OwnEnds _ _ _ _ _ _ _ (T77.setTop (mkF m 270 #[.val (.int p0), .val (.long q1), .second, .val (.int p2), .val (.long q3), .second, .val (.int p4), .val (.int p5), .val (.int n), .val (.int vA), .val (.int vB), .val (.int vC), .val (.int (q3.toInt32)), .val (.int (((q3.toUInt64 >>> ((32 : Int32) &&& 0x3f).toInt64.toUInt64).toInt64).toInt32)), .val (.int (p5 &&& (3 : Int32))), .val (.int vQ), .val (.ref b62), .val (.int (1 : Int32))] [(.ref b62)]))
        refine ogo (fun t k => XS.iload X77.here hx rfl (hb hby at_270) rfl k) ?_
        show OwnEnds _ _ _ _ _ _ _ (T77.setTop (mkF m 272 #[.val (.int p0), .val (.long q1), .second, .val (.int p2), .val (.long q3), .second, .val (.int p4), .val (.int p5), .val (.int n), .val (.int vA), .val (.int vB), .val (.int vC), .val (.int (q3.toInt32)), .val (.int (((q3.toUInt64 >>> ((32 : Int32) &&& 0x3f).toInt64.toUInt64).toInt64).toInt32)), .val (.int (p5 &&& (3 : Int32))), .val (.int vQ), .val (.ref b62), .val (.int (1 : Int32))] [(.int vQ), (.ref b62)]))
        obtain ⟨cq78, kq78, q78a, q78b, q78c⟩ := isOf hZ e77 E72a
        obtain ⟨v78, _, ⟨T78, L78, k78, n78⟩, -, X78, ⟨Lc78, hQ78, l78, y78, z78⟩, st78⟩ := X77.virtualBack hx (y := (⟨"com/example/dispatchwave/dispatchwave/model/VertexLabels", "get", "(I)I"⟩ : MethodName)) (z := (⟨"com/example/dispatchwave/dispatchwave/model/VertexLabels", "get", "(I)I"⟩ : MethodName)) hown (mvT hZ (hw _ (List.mem_of_getElem? (i := 20) rfl))) (mvT hZ (hw _ (List.mem_of_getElem? (i := 21) rfl))) (notFace_of_selects (args := #[]) (mvT hZ (hw _ (List.mem_of_getElem? (i := 23) rfl)))) (mvT hZ (hw _ (List.mem_of_getElem? (i := 23) rfl))) (mvT hZ (hw _ (List.mem_of_getElem? (i := 22) rfl))) (by decide) (backOf (W := 0) (rm2 l Z a0 hw [] b62 vQ n (fupd (fupd (fupd (fun _ => 0) vA.toInt.toNat (q3.toInt32)) vB.toInt.toNat (((q3.toUInt64 >>> ((32 : Int32) &&& 0x3f).toInt64.toUInt64).toInt64).toInt32)) vC.toInt.toNat p4) _ T72.heap n0 Z72 hL72 hn ivQ) hZ (hw _ (List.mem_of_getElem? (i := 24) rfl)) (hw _ (List.mem_of_getElem? (i := 7) rfl)) (by decide) (by decide)) q78a q78c (g := (mkF m 272 #[.val (.int p0), .val (.long q1), .second, .val (.int p2), .val (.long q3), .second, .val (.int p4), .val (.int p5), .val (.int n), .val (.int vA), .val (.int vB), .val (.int vC), .val (.int (q3.toInt32)), .val (.int (((q3.toUInt64 >>> ((32 : Int32) &&& 0x3f).toInt64.toUInt64).toInt64).toInt32)), .val (.int (p5 &&& (3 : Int32))), .val (.int vQ), .val (.ref b62), .val (.int (1 : Int32))] [(.int vQ), (.ref b62)])) rfl (by rw [hml]; rfl) (Steps.refl _) (argsL := [(.int vQ)]) (rest := []) (lenOf pd__I_I rfl) rfl (by show 2 * 0 + _ ≤ _; exact Nat.le_of_eq rfl) (hb hby at_272) (fun _ _ => ⟨rfl, e77, (by decide : 5 + 0 ≤ _), (by decide : 1413 + 0 ≤ _)⟩)
        dsimp only [Pt.U, Pt.locs, Pt.cells, Pt.slots] at X78 l78 y78 z78 st78 hQ78
        subst l78 y78 z78
        obtain ⟨hv78, N78q, e78⟩ := hQ78
        obtain rfl : v78 = some (.int (own_exp vQ vA (q3.toInt32) vB (((q3.toUInt64 >>> ((32 : Int32) &&& 0x3f).toInt64.toUInt64).toInt64).toInt32) vC p4)) := hv78.trans (by rw [own_fin ivQ ivA ivB ivC])
        have N78 := Fr.app N77 N78q
        refine ogo (fun t k => st78.trans k) ?_
        show OwnEnds _ _ _ _ _ _ _ (T78.setTop (mkF m 275 #[.val (.int p0), .val (.long q1), .second, .val (.int p2), .val (.long q3), .second, .val (.int p4), .val (.int p5), .val (.int n), .val (.int vA), .val (.int vB), .val (.int vC), .val (.int (q3.toInt32)), .val (.int (((q3.toUInt64 >>> ((32 : Int32) &&& 0x3f).toInt64.toUInt64).toInt64).toInt32)), .val (.int (p5 &&& (3 : Int32))), .val (.int vQ), .val (.ref b62), .val (.int (1 : Int32))] [(.int (own_exp vQ vA (q3.toInt32) vB (((q3.toUInt64 >>> ((32 : Int32) &&& 0x3f).toInt64.toUInt64).toInt64).toInt32) vC p4))]))
        refine ogo (fun t k => XS.iload X78.here hx rfl (hb hby at_275) rfl k) ?_
        show OwnEnds _ _ _ _ _ _ _ (T78.setTop (mkF m 277 #[.val (.int p0), .val (.long q1), .second, .val (.int p2), .val (.long q3), .second, .val (.int p4), .val (.int p5), .val (.int n), .val (.int vA), .val (.int vB), .val (.int vC), .val (.int (q3.toInt32)), .val (.int (((q3.toUInt64 >>> ((32 : Int32) &&& 0x3f).toInt64.toUInt64).toInt64).toInt32)), .val (.int (p5 &&& (3 : Int32))), .val (.int vQ), .val (.ref b62), .val (.int (1 : Int32))] [(.int vQ), (.int (own_exp vQ vA (q3.toInt32) vB (((q3.toUInt64 >>> ((32 : Int32) &&& 0x3f).toInt64.toUInt64).toInt64).toInt32) vC p4))]))
        refine ogo (fun t k => XS.iload X78.here hx rfl (hb hby at_277) rfl k) ?_
        show OwnEnds _ _ _ _ _ _ _ (T78.setTop (mkF m 279 #[.val (.int p0), .val (.long q1), .second, .val (.int p2), .val (.long q3), .second, .val (.int p4), .val (.int p5), .val (.int n), .val (.int vA), .val (.int vB), .val (.int vC), .val (.int (q3.toInt32)), .val (.int (((q3.toUInt64 >>> ((32 : Int32) &&& 0x3f).toInt64.toUInt64).toInt64).toInt32)), .val (.int (p5 &&& (3 : Int32))), .val (.int vQ), .val (.ref b62), .val (.int (1 : Int32))] [(.int vA), (.int vQ), (.int (own_exp vQ vA (q3.toInt32) vB (((q3.toUInt64 >>> ((32 : Int32) &&& 0x3f).toInt64.toUInt64).toInt64).toInt32) vC p4))]))
        refine ogo (fun t k => XS.iload X78.here hx rfl (hb hby at_279) rfl k) ?_
        show OwnEnds _ _ _ _ _ _ _ (T78.setTop (mkF m 281 #[.val (.int p0), .val (.long q1), .second, .val (.int p2), .val (.long q3), .second, .val (.int p4), .val (.int p5), .val (.int n), .val (.int vA), .val (.int vB), .val (.int vC), .val (.int (q3.toInt32)), .val (.int (((q3.toUInt64 >>> ((32 : Int32) &&& 0x3f).toInt64.toUInt64).toInt64).toInt32)), .val (.int (p5 &&& (3 : Int32))), .val (.int vQ), .val (.ref b62), .val (.int (1 : Int32))] [(.int (q3.toInt32)), (.int vA), (.int vQ), (.int (own_exp vQ vA (q3.toInt32) vB (((q3.toUInt64 >>> ((32 : Int32) &&& 0x3f).toInt64.toUInt64).toInt64).toInt32) vC p4))]))
        refine ogo (fun t k => XS.iload X78.here hx rfl (hb hby at_281) rfl k) ?_
        show OwnEnds _ _ _ _ _ _ _ (T78.setTop (mkF m 283 #[.val (.int p0), .val (.long q1), .second, .val (.int p2), .val (.long q3), .second, .val (.int p4), .val (.int p5), .val (.int n), .val (.int vA), .val (.int vB), .val (.int vC), .val (.int (q3.toInt32)), .val (.int (((q3.toUInt64 >>> ((32 : Int32) &&& 0x3f).toInt64.toUInt64).toInt64).toInt32)), .val (.int (p5 &&& (3 : Int32))), .val (.int vQ), .val (.ref b62), .val (.int (1 : Int32))] [(.int vB), (.int (q3.toInt32)), (.int vA), (.int vQ), (.int (own_exp vQ vA (q3.toInt32) vB (((q3.toUInt64 >>> ((32 : Int32) &&& 0x3f).toInt64.toUInt64).toInt64).toInt32) vC p4))]))
        refine ogo (fun t k => XS.iload X78.here hx rfl (hb hby at_283) rfl k) ?_
        show OwnEnds _ _ _ _ _ _ _ (T78.setTop (mkF m 285 #[.val (.int p0), .val (.long q1), .second, .val (.int p2), .val (.long q3), .second, .val (.int p4), .val (.int p5), .val (.int n), .val (.int vA), .val (.int vB), .val (.int vC), .val (.int (q3.toInt32)), .val (.int (((q3.toUInt64 >>> ((32 : Int32) &&& 0x3f).toInt64.toUInt64).toInt64).toInt32)), .val (.int (p5 &&& (3 : Int32))), .val (.int vQ), .val (.ref b62), .val (.int (1 : Int32))] [(.int (((q3.toUInt64 >>> ((32 : Int32) &&& 0x3f).toInt64.toUInt64).toInt64).toInt32)), (.int vB), (.int (q3.toInt32)), (.int vA), (.int vQ), (.int (own_exp vQ vA (q3.toInt32) vB (((q3.toUInt64 >>> ((32 : Int32) &&& 0x3f).toInt64.toUInt64).toInt64).toInt32) vC p4))]))
        refine ogo (fun t k => XS.iload X78.here hx rfl (hb hby at_285) rfl k) ?_
        show OwnEnds _ _ _ _ _ _ _ (T78.setTop (mkF m 287 #[.val (.int p0), .val (.long q1), .second, .val (.int p2), .val (.long q3), .second, .val (.int p4), .val (.int p5), .val (.int n), .val (.int vA), .val (.int vB), .val (.int vC), .val (.int (q3.toInt32)), .val (.int (((q3.toUInt64 >>> ((32 : Int32) &&& 0x3f).toInt64.toUInt64).toInt64).toInt32)), .val (.int (p5 &&& (3 : Int32))), .val (.int vQ), .val (.ref b62), .val (.int (1 : Int32))] [(.int vC), (.int (((q3.toUInt64 >>> ((32 : Int32) &&& 0x3f).toInt64.toUInt64).toInt64).toInt32)), (.int vB), (.int (q3.toInt32)), (.int vA), (.int vQ), (.int (own_exp vQ vA (q3.toInt32) vB (((q3.toUInt64 >>> ((32 : Int32) &&& 0x3f).toInt64.toUInt64).toInt64).toInt32) vC p4))]))
        refine ogo (fun t k => XS.iload X78.here hx rfl (hb hby at_287) rfl k) ?_
        show OwnEnds _ _ _ _ _ _ _ (T78.setTop (mkF m 289 #[.val (.int p0), .val (.long q1), .second, .val (.int p2), .val (.long q3), .second, .val (.int p4), .val (.int p5), .val (.int n), .val (.int vA), .val (.int vB), .val (.int vC), .val (.int (q3.toInt32)), .val (.int (((q3.toUInt64 >>> ((32 : Int32) &&& 0x3f).toInt64.toUInt64).toInt64).toInt32)), .val (.int (p5 &&& (3 : Int32))), .val (.int vQ), .val (.ref b62), .val (.int (1 : Int32))] [(.int p4), (.int vC), (.int (((q3.toUInt64 >>> ((32 : Int32) &&& 0x3f).toInt64.toUInt64).toInt64).toInt32)), (.int vB), (.int (q3.toInt32)), (.int vA), (.int vQ), (.int (own_exp vQ vA (q3.toInt32) vB (((q3.toUInt64 >>> ((32 : Int32) &&& 0x3f).toInt64.toUInt64).toInt64).toInt32) vC p4))]))
        obtain ⟨v79, _, ⟨T79, L79, k79, n79⟩, -, X79, ⟨Lc79, hQ79, l79, y79, z79⟩, st79⟩ := Jvm.LawKit.callS X78 hx (y := (⟨"com/example/dispatchwave/dispatchwave/model/VertexLabelsGetPinLaw", "expected", "(IIIIIII)I"⟩ : MethodName)) hown (mvT hZ (hw _ (List.mem_of_getElem? (i := 40) rfl))) (mvT hZ (hw _ (List.mem_of_getElem? (i := 41) rfl))) (mvT hZ (hw _ (List.mem_of_getElem? (i := 2) rfl))) (mvT hZ (hw _ (List.mem_of_getElem? (i := 42) rfl))) (by decide) (backOf (W := 1) (rm7 l Z a0 hw [] vQ vA (q3.toInt32) vB (((q3.toUInt64 >>> ((32 : Int32) &&& 0x3f).toInt64.toUInt64).toInt64).toInt32) vC p4 T72.heap n0 Z72 ) hZ (hw _ (List.mem_of_getElem? (i := 42) rfl)) (hw _ (List.mem_of_getElem? (i := 2) rfl)) (by decide) (by decide)) (g := (mkF m 289 #[.val (.int p0), .val (.long q1), .second, .val (.int p2), .val (.long q3), .second, .val (.int p4), .val (.int p5), .val (.int n), .val (.int vA), .val (.int vB), .val (.int vC), .val (.int (q3.toInt32)), .val (.int (((q3.toUInt64 >>> ((32 : Int32) &&& 0x3f).toInt64.toUInt64).toInt64).toInt32)), .val (.int (p5 &&& (3 : Int32))), .val (.int vQ), .val (.ref b62), .val (.int (1 : Int32))] [(.int p4), (.int vC), (.int (((q3.toUInt64 >>> ((32 : Int32) &&& 0x3f).toInt64.toUInt64).toInt64).toInt32)), (.int vB), (.int (q3.toInt32)), (.int vA), (.int vQ), (.int (own_exp vQ vA (q3.toInt32) vB (((q3.toUInt64 >>> ((32 : Int32) &&& 0x3f).toInt64.toUInt64).toInt64).toInt32) vC p4))])) rfl (by rw [hml]; rfl) (argsL := [(.int vQ), (.int vA), (.int (q3.toInt32)), (.int vB), (.int (((q3.toUInt64 >>> ((32 : Int32) &&& 0x3f).toInt64.toUInt64).toInt64).toInt32)), (.int vC), (.int p4)]) (rest := [(.int (own_exp vQ vA (q3.toInt32) vB (((q3.toUInt64 >>> ((32 : Int32) &&& 0x3f).toInt64.toUInt64).toInt64).toInt32) vC p4))]) (lenOf pd__IIIIIII_I rfl) rfl (by show 2 * 0 + _ ≤ _; exact Nat.le_of_eq rfl) (hb hby at_289) (fun _ _ => ⟨rfl, e78, (by decide : 5 + 0 ≤ _), (by decide : 1413 + 0 ≤ _)⟩)
        dsimp only [Pt.U, Pt.locs, Pt.cells, Pt.slots] at X79 l79 y79 z79 st79 hQ79
        subst l79 y79 z79
        obtain ⟨rfl, N79q, e79⟩ := hQ79
        have N79 := Fr.app N78 N79q
        refine ogo (fun t k => st79 t k) ?_
        show OwnEnds _ _ _ _ _ _ _ (T79.setTop (mkF m 292 #[.val (.int p0), .val (.long q1), .second, .val (.int p2), .val (.long q3), .second, .val (.int p4), .val (.int p5), .val (.int n), .val (.int vA), .val (.int vB), .val (.int vC), .val (.int (q3.toInt32)), .val (.int (((q3.toUInt64 >>> ((32 : Int32) &&& 0x3f).toInt64.toUInt64).toInt64).toInt32)), .val (.int (p5 &&& (3 : Int32))), .val (.int vQ), .val (.ref b62), .val (.int (1 : Int32))] [(.int (own_exp vQ vA (q3.toInt32) vB (((q3.toUInt64 >>> ((32 : Int32) &&& 0x3f).toInt64.toUInt64).toInt64).toInt32) vC p4)), (.int (own_exp vQ vA (q3.toInt32) vB (((q3.toUInt64 >>> ((32 : Int32) &&& 0x3f).toInt64.toUInt64).toInt64).toInt32) vC p4))]))
        refine ogo (fun t k => XS.icmpNo X79.here hx rfl (hb hby at_292) rfl (teq (rfl : (own_exp vQ vA (q3.toInt32) vB (((q3.toUInt64 >>> ((32 : Int32) &&& 0x3f).toInt64.toUInt64).toInt64).toInt32) vC p4) = (own_exp vQ vA (q3.toInt32) vB (((q3.toUInt64 >>> ((32 : Int32) &&& 0x3f).toInt64.toUInt64).toInt64).toInt32) vC p4))).2 k) ?_
        show OwnEnds _ _ _ _ _ _ _ (T79.setTop (mkF m 295 #[.val (.int p0), .val (.long q1), .second, .val (.int p2), .val (.long q3), .second, .val (.int p4), .val (.int p5), .val (.int n), .val (.int vA), .val (.int vB), .val (.int vC), .val (.int (q3.toInt32)), .val (.int (((q3.toUInt64 >>> ((32 : Int32) &&& 0x3f).toInt64.toUInt64).toInt64).toInt32)), .val (.int (p5 &&& (3 : Int32))), .val (.int vQ), .val (.ref b62), .val (.int (1 : Int32))] []))
        refine ogo (fun t k => XS.iconst X79.here hx rfl (hb hby at_295) k) ?_
        show OwnEnds _ _ _ _ _ _ _ (T79.setTop (mkF m 296 #[.val (.int p0), .val (.long q1), .second, .val (.int p2), .val (.long q3), .second, .val (.int p4), .val (.int p5), .val (.int n), .val (.int vA), .val (.int vB), .val (.int vC), .val (.int (q3.toInt32)), .val (.int (((q3.toUInt64 >>> ((32 : Int32) &&& 0x3f).toInt64.toUInt64).toInt64).toInt32)), .val (.int (p5 &&& (3 : Int32))), .val (.int vQ), .val (.ref b62), .val (.int (1 : Int32))] [(.int (1 : Int32))]))
        refine ogo (fun t k => XS.goto X79.here hx rfl (pc0 := 296) (pc' := 300) rfl (hb hby at_296) (by decide) (by decide) k) ?_
        show OwnEnds _ _ _ _ _ _ _ (T79.setTop (mkF m 300 #[.val (.int p0), .val (.long q1), .second, .val (.int p2), .val (.long q3), .second, .val (.int p4), .val (.int p5), .val (.int n), .val (.int vA), .val (.int vB), .val (.int vC), .val (.int (q3.toInt32)), .val (.int (((q3.toUInt64 >>> ((32 : Int32) &&& 0x3f).toInt64.toUInt64).toInt64).toInt32)), .val (.int (p5 &&& (3 : Int32))), .val (.int vQ), .val (.ref b62), .val (.int (1 : Int32))] [(.int (1 : Int32))]))
        refine ogo (fun t k => XS.istore X79.here hx rfl (hb hby at_300) rfl (l' := #[.val (.int p0), .val (.long q1), .second, .val (.int p2), .val (.long q3), .second, .val (.int p4), .val (.int p5), .val (.int n), .val (.int vA), .val (.int vB), .val (.int vC), .val (.int (q3.toInt32)), .val (.int (((q3.toUInt64 >>> ((32 : Int32) &&& 0x3f).toInt64.toUInt64).toInt64).toInt32)), .val (.int (p5 &&& (3 : Int32))), .val (.int vQ), .val (.ref b62), .val (.int (1 : Int32))]) rfl k) ?_
        show OwnEnds _ _ _ _ _ _ _ (T79.setTop (mkF m 302 #[.val (.int p0), .val (.long q1), .second, .val (.int p2), .val (.long q3), .second, .val (.int p4), .val (.int p5), .val (.int n), .val (.int vA), .val (.int vB), .val (.int vC), .val (.int (q3.toInt32)), .val (.int (((q3.toUInt64 >>> ((32 : Int32) &&& 0x3f).toInt64.toUInt64).toInt64).toInt32)), .val (.int (p5 &&& (3 : Int32))), .val (.int vQ), .val (.ref b62), .val (.int (1 : Int32))] []))
        refine ogo (fun t k => XS.iload X79.here hx rfl (hb hby at_302) rfl k) ?_
        show OwnEnds _ _ _ _ _ _ _ (T79.setTop (mkF m 304 #[.val (.int p0), .val (.long q1), .second, .val (.int p2), .val (.long q3), .second, .val (.int p4), .val (.int p5), .val (.int n), .val (.int vA), .val (.int vB), .val (.int vC), .val (.int (q3.toInt32)), .val (.int (((q3.toUInt64 >>> ((32 : Int32) &&& 0x3f).toInt64.toUInt64).toInt64).toInt32)), .val (.int (p5 &&& (3 : Int32))), .val (.int vQ), .val (.ref b62), .val (.int (1 : Int32))] [(.int (1 : Int32))]))
        refine endZ X79 hx hlk hret rfl (hb hby at_304) (by decide) (by decide) ?_
        show Q0 Z p0 q1 p2 q3 p4 p5 h0 n0 _ T79.heap _
        rw [e79]
        exact ⟨rfl, N79⟩
set_option maxRecDepth 65536 in
set_option maxHeartbeats 40000000 in
theorem comes_1 {Post : Tables → Env → Array Value → State → Outcome → State → Prop} (hpost : ∀ tb e args s v u, (limb_1_1.after args s (.returned v) u = true ∧ limb_1_2.after args s (.returned v) u = true ∧ True) → FrameEnd s (.returned v) u (Jvm.fieldLocs frame_1_writes args s ++ Jvm.arrayLocs frame_1_arrays args s ++ Jvm.staticLocs frame_1_statics s) 24 1664 → Post tb e args s (.returned v) u) :
    ArmFor flags0 classFile x code maxLocals ret World_1 tables_1 room_1 Calls_1 rest_1 Pre_1 Post := by
  intro l hfl _ _ p e ha hc hk s m args below hf hA hF happ hP
  obtain ⟨hcalls, hrest, hpre⟩ := hP
  obtain ⟨-, -, -, hnamed, -, -, -, hat⟩ := (Spec.applies_iff hf).mp happ
  obtain ⟨hg, hn⟩ := and_e (Cond.before_iff.mp (show (Jvm.Cond.and given_1 narrow_1).before args s = true from hpre))
  obtain ⟨hcount, hg0⟩ := and_e hg
  obtain ⟨hk0, hg1⟩ := and_e hg0
  obtain ⟨hk1, hg2⟩ := and_e hg1
  obtain ⟨hk2, hg3⟩ := and_e hg2
  obtain ⟨hk3, hg4⟩ := and_e hg3
  obtain ⟨hk4, hg5⟩ := and_e hg4
  have hk5 := hg5
  obtain ⟨w0, w1, w2, w3, w4, w5, rfl⟩ : ∃ w0 w1 w2 w3 w4 w5 : Value, args = #[w0, w1, w2, w3, w4, w5] := by
    have hs : args.size = 6 := by simpa [Cond.value, given_1] using hcount
    obtain ⟨L⟩ := args
    match L, hs with
    | [w0, w1, w2, w3, w4, w5], _ => exact ⟨w0, w1, w2, w3, w4, w5, rfl⟩
  have hw := fun d (hd : d ∈ tables_1) => atoms_spec (ws := Jvm.Cond.code x code maxLocals ret :: tables_1) hat d (List.mem_cons_of_mem _ hd)
  have hfit : Fit s := fun {y c} hc i hi => by
    obtain ⟨ha, rfl⟩ := Array.getElem?_eq_some_iff.mp hc
    have q := List.all_eq_true.mp ((Array.all_eq_true_iff_forall_mem.mp hF) _ (Array.getElem_mem ha)) i (List.mem_range.mpr hi)
    simpa [Array.getElem?_eq_getElem hi] using q
  obtain ⟨i0, ei0⟩ := is_v hk0
  obtain rfl : w0 = (.int i0) := Option.some.inj ei0
  obtain ⟨i1, ei1⟩ := isL_v hk1
  obtain rfl : w1 = (.long i1) := Option.some.inj ei1
  obtain ⟨i2, ei2⟩ := is_v hk2
  obtain rfl : w2 = (.int i2) := Option.some.inj ei2
  obtain ⟨i3, ei3⟩ := isL_v hk3
  obtain rfl : w3 = (.long i3) := Option.some.inj ei3
  obtain ⟨i4, ei4⟩ := is_v hk4
  obtain rfl : w4 = (.int i4) := Option.some.inj ei4
  obtain ⟨i5, ei5⟩ := is_v hk5
  obtain rfl : w5 = (.int i5) := Option.some.inj ei5
  obtain ⟨n, o, h1, h2, h3, _, L, rfl, ⟨rfl, N⟩, hq⟩ := rm0 l s _ hw tables_1 i0 i1 i2 i3 i4 i5 s.heap s.heap.size (Nat.le_refl _) (Old.start s) p e ha hc hk s m _ below hf ((Spec.applies_iff_loose hf).mp happ).1 ⟨rfl, State.Warmed39.refl s, rfl⟩ trivial
  refine ⟨n, _, h1, h2, h3, hpost _ _ _ _ _ _ ⟨Cond.after_iff.mpr rfl, Cond.after_iff.mpr (eq_i res_at (Term.int_eval (1)) rfl), trivial⟩ ⟨hq.1, hq.2.1, (hq.2.2.sift fun y hy => Or.inr (N y hy)).mono (by decide) (by decide)⟩⟩
theorem main_1_1 : Claimed_1_1 := comes_1 fun _ _ _ _ _ _ h hF => ⟨h.1, hF⟩
theorem main_1_2 : Claimed_1_2 := comes_1 fun _ _ _ _ _ _ h hF => ⟨h.2.1, hF⟩
end Jvm.Pilot.@@N@@
namespace Jvm.Pilot.@@N@@
open Jvm Jvm.ClassFile Sem Op Lib Jvm.Free Jvm.Stand Jvm.Pilot.@@N@@.Jvm.D
/-! MADE BY PROGRAM (witnessworld.py) out of the Statement's table words and the real class files: 12 classes; the members and pool entries that the words name. The judged class is class 1, her method 3. -/
namespace start1
open Jvm.ClassFile
def u (s : String) : CpInfo := .utf8 (stringToUtf16 s)
/-- a pool by its gaps: so many unusable entries, then the entry; so many at the end -/
def gap : Nat → List CpInfo → List CpInfo
  | 0, r => r
  | n + 1, r => .unusable :: gap n r
def poolList (es : List (Nat × CpInfo)) (last : Nat) : List CpInfo := es.foldr (fun e r => gap e.1 (e.2 :: r)) (gap last [])
def pool (es : List (Nat × CpInfo)) (last : Nat) : Array CpInfo := ⟨poolList es last⟩
def fileOf (pool : Array CpInfo) (this : Nat) (attrs : Array Attribute := #[]) (ms : Array MethodInfo := #[]) (fl : Nat := 33) (sup : Nat := 0) (ifs : Array Nat := #[]) (fds : Array FieldInfo := #[]) : ClassFile where
  minorVersion := 0
  majorVersion := 65
  constantPool := pool
  accessFlags := fl
  thisClass := this
  superClass := sup
  interfaces := ifs
  fields := fds
  methods := ms
  attributes := attrs
def plain (name : String) (sup : Option ClassId) : Class where
  name := name
  kind := .ordinary
  loader := none
  accessFlags := 33
  super := sup
  interfaces := #[]
  cf := none
  fields := #[]
  methods := #[]
  instanceTypes := #[]
  staticTypes := #[]
  resolved := #[]
  callSites := []
  init := .initialized
  statics := none
  mirror := none

def pool0 : Array CpInfo := pool [(5, u "<init>"), (0, u "()V"), (1, .class_ 10), (1, u "java/lang/Object")] 113

def k0c0 : Code := { maxStack := 0, maxLocals := 1, code := object_method_1_code, exceptionTable := #[], attributes := #[] }
def k0m0 : Method := { name := "<init>", desc := "()V", sig := { parameters := [], returnType := none }, accessFlags := 1, code := some k0c0 }
/-- java/lang/Object -/
def k0 : Class := { plain "java/lang/Object" none with
  accessFlags := 33
  interfaces := #[]
  cf := some (fileOf pool0 8 #[] #[{ accessFlags := 1, nameIndex := 5, descriptorIndex := 6, attributes := #[] }] 33 0 #[] #[])
  fields := #[]
  methods := #[k0m0]
  instanceTypes := #[]
  staticTypes := #[]
  resolved := Array.replicate 124 none
  statics := none }

def pool1 : Array CpInfo := pool [(2, .class_ 4), (1, u "java/lang/Object"), (0, u "<init>"), (0, u "()V"), (0, .integer 2147483647), (0, .methodref 9 10), (0, .class_ 11), (0, .nameAndType 12 13), (0, u "com/example/dispatchwave/dispatchwave/model/VertexLabelsGetPinLaw"), (0, u "vertex"), (0, u "(II)I"), (0, .class_ 15), (0, u "com/example/dispatchwave/dispatchwave/model/VertexLabels"), (0, .methodref 14 17), (0, .nameAndType 5 18), (0, u "(I)V"), (0, .methodref 14 20), (0, .nameAndType 21 22), (0, u "get"), (0, u "(I)I"), (0, .methodref 14 24), (0, .nameAndType 25 26), (0, u "put"), (0, u "(II)V"), (0, .methodref 9 28), (0, .nameAndType 29 30), (0, u "expected"), (0, u "(IIIIIII)I"), (3, u "law"), (0, u "(IJIJII)Z")] 2

def k1m0 : Method := { name := "<init>", desc := "()V", sig := { parameters := [], returnType := none }, accessFlags := 1, code := none }
def k1c1 : Code := { maxStack := 2, maxLocals := 2, code := method_2_code, exceptionTable := #[], attributes := #[] }
def k1m1 : Method := { name := "vertex", desc := "(II)I", sig := { parameters := [.int, .int], returnType := some .int }, accessFlags := 10, code := some k1c1 }
def k1c2 : Code := { maxStack := 2, maxLocals := 7, code := method_3_code, exceptionTable := #[], attributes := #[] }
def k1m2 : Method := { name := "expected", desc := "(IIIIIII)I", sig := { parameters := [.int, .int, .int, .int, .int, .int, .int], returnType := some .int }, accessFlags := 10, code := some k1c2 }
def k1c3 : Code := { maxStack := 8, maxLocals := 18, code := code, exceptionTable := #[], attributes := #[] }
def k1m3 : Method := { name := "law", desc := "(IJIJII)Z", sig := { parameters := [.int, .long, .int, .long, .int, .int], returnType := some .boolean }, accessFlags := 9, code := some k1c3 }
/-- com/example/dispatchwave/dispatchwave/model/VertexLabelsGetPinLaw -/
def k1 : Class := { plain "com/example/dispatchwave/dispatchwave/model/VertexLabelsGetPinLaw" (some 0) with
  accessFlags := 49
  interfaces := #[]
  cf := some (fileOf pool1 9 #[] #[{ accessFlags := 1, nameIndex := 5, descriptorIndex := 6, attributes := #[] }, { accessFlags := 10, nameIndex := 12, descriptorIndex := 13, attributes := #[] }, { accessFlags := 10, nameIndex := 29, descriptorIndex := 30, attributes := #[] }, { accessFlags := 9, nameIndex := 34, descriptorIndex := 35, attributes := #[] }] 49 2 #[] #[])
  fields := #[]
  methods := #[k1m0, k1m1, k1m2, k1m3]
  instanceTypes := #[]
  staticTypes := #[]
  resolved := Array.replicate 38 none
  statics := none }

def pool2 : Array CpInfo := pool [(1, .class_ 2), (0, u "com/example/dispatchwave/dispatchwave/model/VertexLabels"), (0, .methodref 4 5), (0, .class_ 6), (0, .nameAndType 7 8), (0, u "java/lang/Object"), (0, u "<init>"), (0, u "()V"), (0, .fieldref 1 10), (0, .nameAndType 11 12), (0, u "vertexCount"), (0, u "I"), (0, .class_ 14), (0, u "[I"), (0, .fieldref 1 16), (0, .nameAndType 17 18), (0, u "pages"), (0, u "[[I"), (0, .fieldref 1 20), (0, .nameAndType 21 14), (0, u "array"), (0, .methodref 1 23), (0, .nameAndType 24 25), (0, u "page"), (0, u "(I)[I"), (0, .long 4), (1, .fieldref 1 29), (0, .nameAndType 30 12), (0, u "made"), (0, .methodref 32 33), (0, .class_ 34), (0, .nameAndType 35 36), (0, u "java/lang/Math"), (0, u "min"), (0, u "(II)I"), (0, .methodref 38 39), (0, .class_ 40), (0, .nameAndType 41 42), (0, u "java/lang/System"), (0, u "arraycopy"), (0, u "(Ljava/lang/Object;ILjava/lang/Object;II)V"), (0, u "PAGE_BITS"), (2, u "PLACE"), (1, u "(I)V"), (2, u "get"), (0, u "(I)I"), (1, u "put"), (0, u "(II)V")] 2

def k2c0 : Code := { maxStack := 3, maxLocals := 2, code := prog_32_method_1_code, exceptionTable := #[], attributes := #[] }
def k2m0 : Method := { name := "<init>", desc := "(I)V", sig := { parameters := [.int], returnType := none }, accessFlags := 0, code := some k2c0 }
def k2c1 : Code := { maxStack := 3, maxLocals := 4, code := prog_32_method_2_code, exceptionTable := #[], attributes := #[] }
def k2m1 : Method := { name := "get", desc := "(I)I", sig := { parameters := [.int], returnType := some .int }, accessFlags := 0, code := some k2c1 }
def k2c2 : Code := { maxStack := 3, maxLocals := 4, code := prog_32_method_3_code, exceptionTable := #[], attributes := #[] }
def k2m2 : Method := { name := "put", desc := "(II)V", sig := { parameters := [.int, .int], returnType := none }, accessFlags := 0, code := some k2c2 }
def k2c3 : Code := { maxStack := 5, maxLocals := 6, code := prog_32_method_4_code, exceptionTable := #[], attributes := #[] }
def k2m3 : Method := { name := "page", desc := "(I)[I", sig := { parameters := [.int], returnType := some (.array .int) }, accessFlags := 2, code := some k2c3 }
/-- com/example/dispatchwave/dispatchwave/model/VertexLabels -/
def k2 : Class := { plain "com/example/dispatchwave/dispatchwave/model/VertexLabels" (some 0) with
  accessFlags := 48
  interfaces := #[]
  cf := some (fileOf pool2 1 #[] #[{ accessFlags := 0, nameIndex := 7, descriptorIndex := 48, attributes := #[] }, { accessFlags := 0, nameIndex := 51, descriptorIndex := 52, attributes := #[] }, { accessFlags := 0, nameIndex := 54, descriptorIndex := 55, attributes := #[] }, { accessFlags := 2, nameIndex := 24, descriptorIndex := 25, attributes := #[] }] 48 4 #[] #[{ accessFlags := 26, nameIndex := 43, descriptorIndex := 12, attributes := #[] }, { accessFlags := 26, nameIndex := 46, descriptorIndex := 12, attributes := #[] }, { accessFlags := 18, nameIndex := 11, descriptorIndex := 12, attributes := #[] }, { accessFlags := 2, nameIndex := 17, descriptorIndex := 18, attributes := #[] }, { accessFlags := 2, nameIndex := 30, descriptorIndex := 12, attributes := #[] }, { accessFlags := 2, nameIndex := 21, descriptorIndex := 14, attributes := #[] }])
  fields := #[{ name := "PAGE_BITS", type := .int, accessFlags := 26, slot := 0, constantValue := 0 }, { name := "PLACE", type := .int, accessFlags := 26, slot := 1, constantValue := 0 }, { name := "vertexCount", type := .int, accessFlags := 18, slot := 0, constantValue := 0 }, { name := "pages", type := (.array (.array .int)), accessFlags := 2, slot := 1, constantValue := 0 }, { name := "made", type := .int, accessFlags := 2, slot := 2, constantValue := 0 }, { name := "array", type := (.array .int), accessFlags := 2, slot := 3, constantValue := 0 }]
  methods := #[k2m0, k2m1, k2m2, k2m3]
  instanceTypes := #[.int, (.array (.array .int)), .int, (.array .int)]
  staticTypes := #[.int, .int]
  resolved := Array.replicate 58 none
  statics := none }

def pool3 : Array CpInfo := pool [(1, .class_ 2), (0, u "java/lang/Math"), (1, .class_ 6), (1, u "java/lang/Object"), (0, u "<init>"), (0, u "()V"), (89, .class_ 100), (1, u "java/lang/Math$RandomNumberGeneratorHolder"), (71, u "negativeZeroFloatBits"), (0, u "J"), (2, u "negativeZeroDoubleBits"), (24, u "min"), (43, u "$assertionsDisabled"), (0, u "Z"), (88, u "(II)I"), (2, u "twoToTheDoubleScaleDown"), (0, u "D"), (4, u "twoToTheDoubleScaleUp"), (9, u "E"), (3, u "PI"), (2, u "TAU"), (2, u "DEGREES_TO_RADIANS"), (0, u "RADIANS_TO_DEGREES")] 94

def k3m0 : Method := { name := "<init>", desc := "()V", sig := { parameters := [], returnType := none }, accessFlags := 2, code := none }
def k3c1 : Code := { maxStack := 2, maxLocals := 2, code := jdk_29_method_69_code, exceptionTable := #[], attributes := #[] }
def k3m1 : Method := { name := "min", desc := "(II)I", sig := { parameters := [.int, .int], returnType := some .int }, accessFlags := 9, code := some k3c1 }
/-- java/lang/Math -/
def k3 : Class := { plain "java/lang/Math" (some 0) with
  accessFlags := 49
  interfaces := #[]
  cf := some (fileOf pool3 1 #[.nestMembers #[98]] #[{ accessFlags := 2, nameIndex := 7, descriptorIndex := 8, attributes := #[] }, { accessFlags := 9, nameIndex := 201, descriptorIndex := 335, attributes := #[] }] 49 4 #[] #[{ accessFlags := 25, nameIndex := 354, descriptorIndex := 339, attributes := #[] }, { accessFlags := 25, nameIndex := 358, descriptorIndex := 339, attributes := #[] }, { accessFlags := 25, nameIndex := 361, descriptorIndex := 339, attributes := #[] }, { accessFlags := 26, nameIndex := 364, descriptorIndex := 339, attributes := #[] }, { accessFlags := 26, nameIndex := 365, descriptorIndex := 339, attributes := #[] }, { accessFlags := 26, nameIndex := 172, descriptorIndex := 173, attributes := #[] }, { accessFlags := 26, nameIndex := 176, descriptorIndex := 173, attributes := #[] }, { accessFlags := 8, nameIndex := 344, descriptorIndex := 339, attributes := #[] }, { accessFlags := 8, nameIndex := 338, descriptorIndex := 339, attributes := #[] }, { accessFlags := 4120, nameIndex := 245, descriptorIndex := 246, attributes := #[] }])
  fields := #[{ name := "E", type := .double, accessFlags := 25, slot := 0, constantValue := 0 }, { name := "PI", type := .double, accessFlags := 25, slot := 1, constantValue := 0 }, { name := "TAU", type := .double, accessFlags := 25, slot := 2, constantValue := 0 }, { name := "DEGREES_TO_RADIANS", type := .double, accessFlags := 26, slot := 3, constantValue := 0 }, { name := "RADIANS_TO_DEGREES", type := .double, accessFlags := 26, slot := 4, constantValue := 0 }, { name := "negativeZeroFloatBits", type := .long, accessFlags := 26, slot := 5, constantValue := 0 }, { name := "negativeZeroDoubleBits", type := .long, accessFlags := 26, slot := 6, constantValue := 0 }, { name := "twoToTheDoubleScaleUp", type := .double, accessFlags := 8, slot := 7, constantValue := 0 }, { name := "twoToTheDoubleScaleDown", type := .double, accessFlags := 8, slot := 8, constantValue := 0 }, { name := "$assertionsDisabled", type := .boolean, accessFlags := 4120, slot := 9, constantValue := 0 }]
  methods := #[k3m0, k3m1]
  instanceTypes := #[]
  staticTypes := #[.double, .double, .double, .double, .double, .long, .long, .double, .double, .boolean]
  resolved := Array.replicate 460 none
  statics := none }

def pool4 : Array CpInfo := pool [(2, .class_ 4), (1, u "java/lang/Object"), (0, u "<init>"), (0, u "()V"), (1, .class_ 10), (1, u "java/lang/System"), (0, u "allowSecurityManager"), (0, u "I"), (16, u "cons"), (0, u "Ljava/io/Console;"), (77, .class_ 110), (1, u "java/lang/System$CallersHolder"), (43, u "initialErrStream"), (0, u "Ljava/io/PrintStream;"), (19, u "security"), (0, u "Ljava/lang/SecurityManager;"), (31, .class_ 209), (0, u "java/lang/System$1"), (7, u "props"), (0, u "Ljava/util/Properties;"), (2, u "lineSeparator"), (0, u "Ljava/lang/String;"), (96, .class_ 321), (1, u "java/lang/System$LoggerFinder"), (5, .class_ 328), (0, u "java/lang/System$Logger"), (67, u "err"), (2, u "out"), (91, u "notSupportedJnuEncoding"), (15, u "in"), (17, u "initialIn"), (0, u "Ljava/io/InputStream;"), (35, u "bootLayer"), (0, u "Ljava/lang/ModuleLayer;"), (99, .class_ 664), (0, u "java/lang/System$2"), (9, u "NEVER"), (2, u "MAYBE"), (49, u "arraycopy"), (0, u "(Ljava/lang/Object;ILjava/lang/Object;II)V"), (72, .class_ 802), (0, u "java/lang/System$Logger$Level")] 31

def k4m0 : Method := { name := "<init>", desc := "()V", sig := { parameters := [], returnType := none }, accessFlags := 2, code := none }
def k4m1 : Method := { name := "arraycopy", desc := "(Ljava/lang/Object;ILjava/lang/Object;II)V", sig := { parameters := [(.object "java/lang/Object"), .int, (.object "java/lang/Object"), .int, .int], returnType := none }, accessFlags := 265, code := none }
/-- java/lang/System -/
def k4 : Class := { plain "java/lang/System" (some 0) with
  accessFlags := 49
  interfaces := #[]
  cf := some (fileOf pool4 8 #[.nestMembers #[319, 327, 801, 108, 663, 208]] #[{ accessFlags := 2, nameIndex := 5, descriptorIndex := 6, attributes := #[] }, { accessFlags := 265, nameIndex := 727, descriptorIndex := 728, attributes := #[] }] 49 2 #[] #[{ accessFlags := 25, nameIndex := 507, descriptorIndex := 526, attributes := #[] }, { accessFlags := 25, nameIndex := 399, descriptorIndex := 155, attributes := #[] }, { accessFlags := 25, nameIndex := 396, descriptorIndex := 155, attributes := #[] }, { accessFlags := 10, nameIndex := 525, descriptorIndex := 526, attributes := #[] }, { accessFlags := 26, nameIndex := 674, descriptorIndex := 12, attributes := #[] }, { accessFlags := 26, nameIndex := 677, descriptorIndex := 12, attributes := #[] }, { accessFlags := 10, nameIndex := 11, descriptorIndex := 12, attributes := #[] }, { accessFlags := 74, nameIndex := 175, descriptorIndex := 176, attributes := #[] }, { accessFlags := 10, nameIndex := 491, descriptorIndex := 222, attributes := #[] }, { accessFlags := 74, nameIndex := 29, descriptorIndex := 30, attributes := #[] }, { accessFlags := 74, nameIndex := 154, descriptorIndex := 155, attributes := #[] }, { accessFlags := 10, nameIndex := 217, descriptorIndex := 218, attributes := #[] }, { accessFlags := 10, nameIndex := 221, descriptorIndex := 222, attributes := #[] }, { accessFlags := 8, nameIndex := 562, descriptorIndex := 563, attributes := #[] }])
  fields := #[{ name := "in", type := (.object "java/io/InputStream"), accessFlags := 25, slot := 0, constantValue := 0 }, { name := "out", type := (.object "java/io/PrintStream"), accessFlags := 25, slot := 1, constantValue := 0 }, { name := "err", type := (.object "java/io/PrintStream"), accessFlags := 25, slot := 2, constantValue := 0 }, { name := "initialIn", type := (.object "java/io/InputStream"), accessFlags := 10, slot := 3, constantValue := 0 }, { name := "NEVER", type := .int, accessFlags := 26, slot := 4, constantValue := 0 }, { name := "MAYBE", type := .int, accessFlags := 26, slot := 5, constantValue := 0 }, { name := "allowSecurityManager", type := .int, accessFlags := 10, slot := 6, constantValue := 0 }, { name := "security", type := (.object "java/lang/SecurityManager"), accessFlags := 74, slot := 7, constantValue := 0 }, { name := "notSupportedJnuEncoding", type := (.object "java/lang/String"), accessFlags := 10, slot := 8, constantValue := 0 }, { name := "cons", type := (.object "java/io/Console"), accessFlags := 74, slot := 9, constantValue := 0 }, { name := "initialErrStream", type := (.object "java/io/PrintStream"), accessFlags := 74, slot := 10, constantValue := 0 }, { name := "props", type := (.object "java/util/Properties"), accessFlags := 10, slot := 11, constantValue := 0 }, { name := "lineSeparator", type := (.object "java/lang/String"), accessFlags := 10, slot := 12, constantValue := 0 }, { name := "bootLayer", type := (.object "java/lang/ModuleLayer"), accessFlags := 8, slot := 13, constantValue := 0 }]
  methods := #[k4m0, k4m1]
  instanceTypes := #[]
  staticTypes := #[(.object "java/io/InputStream"), (.object "java/io/PrintStream"), (.object "java/io/PrintStream"), (.object "java/io/InputStream"), .int, .int, .int, (.object "java/lang/SecurityManager"), (.object "java/lang/String"), (.object "java/io/Console"), (.object "java/io/PrintStream"), (.object "java/util/Properties"), (.object "java/lang/String"), (.object "java/lang/ModuleLayer")]
  resolved := Array.replicate 834 none
  statics := none }

def pool5 : Array CpInfo := pool [(1, u "java/lang/Cloneable"), (0, .class_ 1), (0, u "java/lang/Object"), (0, .class_ 3)] 3

/-- java/lang/Cloneable -/
def k5 : Class := { plain "java/lang/Cloneable" (some 0) with
  accessFlags := 1537
  interfaces := #[]
  cf := some (fileOf pool5 2 #[] #[] 1537 4 #[] #[])
  fields := #[]
  methods := #[]
  instanceTypes := #[]
  staticTypes := #[]
  resolved := Array.replicate 8 none
  statics := none }

def pool6 : Array CpInfo := pool [(1, u "java/io/Serializable"), (0, .class_ 1), (0, u "java/lang/Object"), (0, .class_ 3)] 3

/-- java/io/Serializable -/
def k6 : Class := { plain "java/io/Serializable" (some 0) with
  accessFlags := 1537
  interfaces := #[]
  cf := some (fileOf pool6 2 #[] #[] 1537 4 #[] #[])
  fields := #[]
  methods := #[]
  instanceTypes := #[]
  staticTypes := #[]
  resolved := Array.replicate 8 none
  statics := none }

/-- the primitive byte -/
def k7 : Class := { plain "byte" none with kind := .primitive 'B', accessFlags := 0x411 }
/-- [B -/
def k8 : Class := { plain "[B" (some 0) with kind := .array 7 .byte, interfaces := #[5, 6], accessFlags := 1041 }

/-- the primitive int -/
def k9 : Class := { plain "int" none with kind := .primitive 'I', accessFlags := 0x411 }
/-- [I -/
def k10 : Class := { plain "[I" (some 0) with kind := .array 9 .int, interfaces := #[5, 6], accessFlags := 1041 }

/-- [[I -/
def k11 : Class := { plain "[[I" (some 0) with kind := .array 10 (.array .int), interfaces := #[5, 6], accessFlags := 1041 }

def heap : Heap := #[{ cls := 11, slots := #[.null], vm := .none }]
def classes : Array Class := #[k0, k1, k2, k3, k4, k5, k6, k7, k8, k9, k10, k11]
def interned : List (Array UInt16 × Addr) := []
def slotsUsed : Nat := 1
def theMethod : MethodId := ⟨1, 3⟩
def args0 : Array Value := #[.int 5, .long 5, .int 7, .long 9, .int 3, .int 2]
def aboutOver (below : List Frame) : State where
  vm := { classes := classes, interned := interned.toArray }
  heap := heap
  slotsUsed := slotsUsed
  threads := #[{ frames := .invoking theMethod args0 :: below }]
def below0 : List Frame := [.native { method := ⟨0, 0⟩, args := #[] }]
def about1 : State := aboutOver below0
def p0 : Program := .bare "" "" ""
def e0 : Env := launch0.env 0 0 0
theorem w_frames : about1.frames = Frame.invoking theMethod args0 :: below0 := rfl
set_option maxRecDepth 65536 in
theorem w_args : argsFit about1.vm theMethod args0 = true := by decide +kernel
set_option maxRecDepth 65536 in
theorem w_heap : heapFits about1 = true := by decide +kernel
set_option maxRecDepth 65536 in
theorem w_runnable : about1.curStatus? = some .runnable := by decide +kernel
set_option maxRecDepth 65536 in
theorem w_alone : about1.alone = true := by decide +kernel
set_option maxRecDepth 65536 in
theorem w_named : about1.methodNamed? x = some theMethod := by decide +kernel
set_option maxRecDepth 65536 in
theorem w_hears : about1.hears theMethod below0 = true := by decide +kernel
set_option maxRecDepth 65536 in
theorem w_ripe : about1.ripe theMethod args0 below0 = true := by decide +kernel
theorem w_running : about1.status = .running := rfl
set_option maxRecDepth 65536 in
theorem w_room : about1.hasRoom e0.platform room_1 = true :=
  launch0.hasRoom_least _ room_1 (by decide +kernel) (by decide +kernel) (by decide +kernel) (by decide +kernel) (by decide +kernel) (by decide +kernel)
theorem allAtoms_all (ts : List Jvm.Cond) (a : Array Jvm.Value) (st : Jvm.State) : (allAtoms ts).before a st = ts.all (fun c => c.before a st) := by
  induction ts with
  | nil => rfl
  | cons c t ih =>
    show (Jvm.Cond.and c (allAtoms t)).before a st = _
    rw [Jvm.Cond.before_and, ih, List.all_cons]
def words1 : List Jvm.Cond := Jvm.Cond.code x code maxLocals ret :: tables_1
/-- a 'code' word, met by the world's own term for the bytes: nothing is compared byte by byte -/
theorem code_word {y : MethodName} {bytes : ByteArray} {mx : Nat} {rt : Option FieldType} {a : Array Value} {s : State} {m : MethodId} {meth : Method} {c : Code} (h1 : s.methodNamed? y = some m) (h2 : s.vm.method? m = some meth) (h3 : meth.code = some c) (h4 : c.code = bytes)
    (h5 : (c.maxLocals == mx && c.exceptionTable.isEmpty && decide (c.maxStack ≤ mostOperands) && decide (meth.sig.returnType = rt) && !meth.locks && decide (parseMethodDescriptor y.desc = some meth.sig)) = true) : (Jvm.Cond.code y bytes mx rt).before a s = true := by
  simp only [Bool.and_eq_true, beq_iff_eq, Bool.not_eq_true', decide_eq_true_eq] at h5
  obtain ⟨⟨⟨⟨⟨g1, g2⟩, g3⟩, g4⟩, g5⟩, g6⟩ := h5
  simp [Cond.before, Cond.holds, Cond.value, h1, h2, h3, h4, g1, g2, g3, g4, g5, g6]
def isCode : Jvm.Cond → Bool
  | .code _ _ _ _ => true
  | _ => false
theorem all_split {L : List Jvm.Cond} {P : Jvm.Cond → Bool} (h1 : L.all (fun c => isCode c || P c) = true) (h2 : ∀ c ∈ L.filter isCode, P c = true) : L.all P = true := by
  refine List.all_eq_true.mpr fun c hc => ?_
  have h := List.all_eq_true.mp h1 c hc
  rcases Bool.eq_false_or_eq_true (isCode c) with hi | hi
  · exact h2 c (List.mem_filter.mpr ⟨hc, hi⟩)
  · simpa [hi] using h
set_option maxRecDepth 65536 in
theorem w_c0 : (Jvm.Cond.code x code maxLocals ret).before args0 about1 = true := code_word (m := ⟨1, 3⟩) (meth := k1m3) (c := k1c3) (by decide +kernel) rfl rfl rfl (by decide +kernel)
set_option maxRecDepth 65536 in
theorem w_c1 : (Jvm.Cond.code ({ cls := "com/example/dispatchwave/dispatchwave/model/VertexLabelsGetPinLaw", name := "vertex", desc := "(II)I" } : Jvm.MethodName) method_2_code (2 : Nat) (Option.some Jvm.ClassFile.FieldType.int)).before args0 about1 = true := code_word (m := ⟨1, 1⟩) (meth := k1m1) (c := k1c1) (by decide +kernel) rfl rfl rfl (by decide +kernel)
set_option maxRecDepth 65536 in
theorem w_c2 : (Jvm.Cond.code ({ cls := "com/example/dispatchwave/dispatchwave/model/VertexLabels", name := "<init>", desc := "(I)V" } : Jvm.MethodName) prog_32_method_1_code (2 : Nat) (Option.none : Option Jvm.ClassFile.FieldType)).before args0 about1 = true := code_word (m := ⟨2, 0⟩) (meth := k2m0) (c := k2c0) (by decide +kernel) rfl rfl rfl (by decide +kernel)
set_option maxRecDepth 65536 in
theorem w_c3 : (Jvm.Cond.code ({ cls := "java/lang/Object", name := "<init>", desc := "()V" } : Jvm.MethodName) object_method_1_code (1 : Nat) (Option.none : Option Jvm.ClassFile.FieldType)).before args0 about1 = true := code_word (m := ⟨0, 0⟩) (meth := k0m0) (c := k0c0) (by decide +kernel) rfl rfl rfl (by decide +kernel)
set_option maxRecDepth 65536 in
theorem w_c4 : (Jvm.Cond.code ({ cls := "com/example/dispatchwave/dispatchwave/model/VertexLabels", name := "get", desc := "(I)I" } : Jvm.MethodName) prog_32_method_2_code (4 : Nat) (Option.some Jvm.ClassFile.FieldType.int)).before args0 about1 = true := code_word (m := ⟨2, 1⟩) (meth := k2m1) (c := k2c1) (by decide +kernel) rfl rfl rfl (by decide +kernel)
set_option maxRecDepth 65536 in
theorem w_c5 : (Jvm.Cond.code ({ cls := "com/example/dispatchwave/dispatchwave/model/VertexLabels", name := "put", desc := "(II)V" } : Jvm.MethodName) prog_32_method_3_code (4 : Nat) (Option.none : Option Jvm.ClassFile.FieldType)).before args0 about1 = true := code_word (m := ⟨2, 2⟩) (meth := k2m2) (c := k2c2) (by decide +kernel) rfl rfl rfl (by decide +kernel)
set_option maxRecDepth 65536 in
theorem w_c6 : (Jvm.Cond.code ({ cls := "com/example/dispatchwave/dispatchwave/model/VertexLabels", name := "page", desc := "(I)[I" } : Jvm.MethodName) prog_32_method_4_code (6 : Nat) (Option.some (Jvm.ClassFile.FieldType.array Jvm.ClassFile.FieldType.int))).before args0 about1 = true := code_word (m := ⟨2, 3⟩) (meth := k2m3) (c := k2c3) (by decide +kernel) rfl rfl rfl (by decide +kernel)
set_option maxRecDepth 65536 in
theorem w_c7 : (Jvm.Cond.code ({ cls := "com/example/dispatchwave/dispatchwave/model/VertexLabelsGetPinLaw", name := "expected", desc := "(IIIIIII)I" } : Jvm.MethodName) method_3_code (7 : Nat) (Option.some Jvm.ClassFile.FieldType.int)).before args0 about1 = true := code_word (m := ⟨1, 2⟩) (meth := k1m2) (c := k1c2) (by decide +kernel) rfl rfl rfl (by decide +kernel)
set_option maxRecDepth 65536 in
theorem w_c8 : (Jvm.Cond.code ({ cls := "java/lang/Math", name := "min", desc := "(II)I" } : Jvm.MethodName) jdk_29_method_69_code (2 : Nat) (Option.some Jvm.ClassFile.FieldType.int)).before args0 about1 = true := code_word (m := ⟨3, 1⟩) (meth := k3m1) (c := k3c1) (by decide +kernel) rfl rfl rfl (by decide +kernel)
def codes1 : List Jvm.Cond := [Jvm.Cond.code x code maxLocals ret, Jvm.Cond.code ({ cls := "com/example/dispatchwave/dispatchwave/model/VertexLabelsGetPinLaw", name := "vertex", desc := "(II)I" } : Jvm.MethodName) method_2_code (2 : Nat) (Option.some Jvm.ClassFile.FieldType.int), Jvm.Cond.code ({ cls := "com/example/dispatchwave/dispatchwave/model/VertexLabels", name := "<init>", desc := "(I)V" } : Jvm.MethodName) prog_32_method_1_code (2 : Nat) (Option.none : Option Jvm.ClassFile.FieldType), Jvm.Cond.code ({ cls := "java/lang/Object", name := "<init>", desc := "()V" } : Jvm.MethodName) object_method_1_code (1 : Nat) (Option.none : Option Jvm.ClassFile.FieldType), Jvm.Cond.code ({ cls := "com/example/dispatchwave/dispatchwave/model/VertexLabels", name := "get", desc := "(I)I" } : Jvm.MethodName) prog_32_method_2_code (4 : Nat) (Option.some Jvm.ClassFile.FieldType.int), Jvm.Cond.code ({ cls := "com/example/dispatchwave/dispatchwave/model/VertexLabels", name := "put", desc := "(II)V" } : Jvm.MethodName) prog_32_method_3_code (4 : Nat) (Option.none : Option Jvm.ClassFile.FieldType), Jvm.Cond.code ({ cls := "com/example/dispatchwave/dispatchwave/model/VertexLabels", name := "page", desc := "(I)[I" } : Jvm.MethodName) prog_32_method_4_code (6 : Nat) (Option.some (Jvm.ClassFile.FieldType.array Jvm.ClassFile.FieldType.int)), Jvm.Cond.code ({ cls := "com/example/dispatchwave/dispatchwave/model/VertexLabelsGetPinLaw", name := "expected", desc := "(IIIIIII)I" } : Jvm.MethodName) method_3_code (7 : Nat) (Option.some Jvm.ClassFile.FieldType.int), Jvm.Cond.code ({ cls := "java/lang/Math", name := "min", desc := "(II)I" } : Jvm.MethodName) jdk_29_method_69_code (2 : Nat) (Option.some Jvm.ClassFile.FieldType.int)]
set_option maxRecDepth 65536 in
theorem codes_eq : words1.filter isCode = codes1 := rfl
theorem w_codes : ∀ c ∈ words1.filter isCode, c.before args0 about1 = true := by
  rw [codes_eq]
  intro c hc
  simp only [codes1, List.mem_cons, List.not_mem_nil, or_false] at hc
  rcases hc with rfl | rfl | rfl | rfl | rfl | rfl | rfl | rfl | rfl
  · exact w_c0
  · exact w_c1
  · exact w_c2
  · exact w_c3
  · exact w_c4
  · exact w_c5
  · exact w_c6
  · exact w_c7
  · exact w_c8
set_option maxRecDepth 65536 in
theorem w_t1 : (words1.take 24).all (fun c => isCode c || c.before args0 about1) = true := by decide +kernel
set_option maxRecDepth 65536 in
theorem w_t2 : ((words1.drop 24).take 24).all (fun c => isCode c || c.before args0 about1) = true := by decide +kernel
set_option maxRecDepth 65536 in
theorem w_t3 : ((words1.drop 24).drop 24).all (fun c => isCode c || c.before args0 about1) = true := by decide +kernel
theorem w_tables : (allAtoms (Jvm.Cond.code x code maxLocals ret :: tables_1)).before args0 about1 = true := by
  rw [allAtoms_all]
  show words1.all (fun c => c.before args0 about1) = true
  refine all_split ?_ w_codes
  rw [← List.take_append_drop 24 words1, List.all_append, w_t1, ← List.take_append_drop 24 (words1.drop 24), List.all_append, w_t2, w_t3]
  rfl
set_option maxRecDepth 65536 in
theorem w_case : (Jvm.Cond.and given_1 narrow_1).before args0 about1 = true := by decide +kernel
theorem w_applies : (headSpec (Jvm.Cond.code x code maxLocals ret :: tables_1) room_1).applies x e0.platform about1 = true :=
  (Spec.applies_iff w_frames).mpr ⟨w_running, w_runnable, w_alone, w_named, w_hears, w_ripe, w_room, w_tables⟩
theorem atStart : AtStart classFile x code maxLocals ret World_1 tables_1 room_1 Calls_1 rest_1 Pre_1 launch0 p0 e0 about1 theMethod args0 below0 :=
  ⟨lists_1, trivial, launch0.admits_env _ _ _, launch0.least_env, fairChoices_fair.cas, fairChoices_fair.clock, w_frames, w_args, w_heap, w_applies, trivial, trivial, w_case⟩
end start1
theorem witness_1 : WitnessClaimed_1 := ⟨start1.p0, start1.e0, start1.about1, start1.theMethod, start1.args0, start1.below0, start1.atStart⟩
end Jvm.Pilot.@@N@@
