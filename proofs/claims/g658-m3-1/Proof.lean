import JvmDerived
import JvmDerived.Pilot.@@N@@Statement
import JvmDerived.Pilot.@@N@@Code
set_option linter.unusedVariables false
set_option linter.unusedSimpArgs false
@@BLOCK:NumsL.lean.txt@@
namespace Jvm.OwnW
open Sem ClassFile Op Lib Jvm.Stand Jvm.Free Jvm.LawKit Jvm.RoadKit
section Own
variable {p : Program} {l : Launch} {e : Env} {R : Room} {s : State} {m : MethodId} {args : Array Value} {below : List Frame} {meth : Method} {c : Code} {T : State} {locs : List Loc} {cells slots : Nat} {K N : Nat} {Q : Option Value → Heap → List Loc → Prop}
/-- from U the run comes to the method's end, and what it leaves there is Q -/
def OwnEnds (tb : Tables) (e : Env) (below : List Frame) (s : State) (K N : Nat) (Q : Option Value → Heap → List Loc → Prop) (U : State) : Prop :=
  ∃ s₂ o, Steps tb e below U s₂ ∧ s₂.status = .running ∧ Ended s₂ below o ∧ ∃ v L, o = .returned v ∧ Q v s₂.heap L ∧ FrameEnd s o s₂ L K N
theorem ogo {tb : Tables} {U U' : State} (st : ∀ t, Steps tb e below U' t → Steps tb e below U t) (h : OwnEnds tb e below s K N Q U') : OwnEnds tb e below s K N Q U := by
  obtain ⟨s₂, o, h1, h2⟩ := h
  exact ⟨s₂, o, st _ h1, h2⟩
theorem endR (X : Stand p l e R s m args below meth c T locs cells slots) (hx : p.tables.exec = Jvm.exec) (hlk : meth.locks = false) {pc : Nat} {Ls : Array Slot} {w : Value} {t : FieldType} {i : Instr} {rest : List Value} (hret : meth.sig.returnType = some t) (hn : narrow t w = w)
    (hi : (i = .ireturn ∧ (t = .int ∨ t = .boolean ∨ t = .byte ∨ t = .char ∨ t = .short) ∧ ∃ z, w = .int z) ∨ (i = .lreturn ∧ t = .long ∧ ∃ z, w = .long z) ∨ (i = .dreturn ∧ t = .double ∧ ∃ z, w = .double z) ∨ (i = .freturn ∧ t = .float ∧ ∃ z, w = .float z) ∨ (i = .areturn ∧ t.isReference = true ∧ w.isRef = true))
    (hd : decode c.code pc = .ok (i, 1)) (hK : cells ≤ K) (hN : slots ≤ N) (hQ : Q (some w) T.heap locs) : OwnEnds p.tables e below s K N Q (T.setTop (mkF m pc Ls (w :: rest))) := by
  obtain ⟨fs, hr, hrun, hended, hW, hsame⟩ := X.leave (v := some w) (fun h => by rw [hret] at h; cases h) hlk
  exact ⟨_, _, retOut X hx hret hn hi hd hr, hrun, hended, _, _, rfl, hQ, ⟨_, rfl⟩, hW, hsame.mono hK hN⟩
theorem endI (X : Stand p l e R s m args below meth c T locs cells slots) (hx : p.tables.exec = Jvm.exec) (hlk : meth.locks = false) {pc : Nat} {Ls : Array Slot} {z : Int32} {rest : List Value} (hret : meth.sig.returnType = some .int)
    (hd : decode c.code pc = .ok (.ireturn, 1)) (hK : cells ≤ K) (hN : slots ≤ N) (hQ : Q (some (.int z)) T.heap locs) : OwnEnds p.tables e below s K N Q (T.setTop (mkF m pc Ls (.int z :: rest))) :=
  endR X hx hlk hret rfl (Or.inl ⟨rfl, Or.inl rfl, z, rfl⟩) hd hK hN hQ
theorem endZ (X : Stand p l e R s m args below meth c T locs cells slots) (hx : p.tables.exec = Jvm.exec) (hlk : meth.locks = false) {pc : Nat} {Ls : Array Slot} {z : Int32} {rest : List Value} (hret : meth.sig.returnType = some .boolean) (hn : narrow .boolean (.int z) = .int z)
    (hd : decode c.code pc = .ok (.ireturn, 1)) (hK : cells ≤ K) (hN : slots ≤ N) (hQ : Q (some (.int z)) T.heap locs) : OwnEnds p.tables e below s K N Q (T.setTop (mkF m pc Ls (.int z :: rest))) :=
  endR X hx hlk hret hn (Or.inl ⟨rfl, Or.inr (Or.inl rfl), z, rfl⟩) hd hK hN hQ
theorem endJ (X : Stand p l e R s m args below meth c T locs cells slots) (hx : p.tables.exec = Jvm.exec) (hlk : meth.locks = false) {pc : Nat} {Ls : Array Slot} {z : Int64} {rest : List Value} (hret : meth.sig.returnType = some .long)
    (hd : decode c.code pc = .ok (.lreturn, 1)) (hK : cells ≤ K) (hN : slots ≤ N) (hQ : Q (some (.long z)) T.heap locs) : OwnEnds p.tables e below s K N Q (T.setTop (mkF m pc Ls (.long z :: rest))) :=
  endR X hx hlk hret rfl (Or.inr (Or.inl ⟨rfl, rfl, z, rfl⟩)) hd hK hN hQ
theorem endA (X : Stand p l e R s m args below meth c T locs cells slots) (hx : p.tables.exec = Jvm.exec) (hlk : meth.locks = false) {pc : Nat} {Ls : Array Slot} {w : Value} {t : FieldType} {rest : List Value} (hret : meth.sig.returnType = some t) (ht : t.isReference = true) (hw : w.isRef = true)
    (hd : decode c.code pc = .ok (.areturn, 1)) (hK : cells ≤ K) (hN : slots ≤ N) (hQ : Q (some w) T.heap locs) : OwnEnds p.tables e below s K N Q (T.setTop (mkF m pc Ls (w :: rest))) :=
  endR X hx hlk hret (by rcases ref_cases hw with rfl | ⟨a, rfl⟩ <;> cases t <;> simp_all [narrow, FieldType.isReference]) (Or.inr (Or.inr (Or.inr (Or.inr ⟨rfl, ht, hw⟩)))) hd hK hN hQ
theorem endV (X : Stand p l e R s m args below meth c T locs cells slots) (hx : p.tables.exec = Jvm.exec) (hlk : meth.locks = false) {pc : Nat} {Ls : Array Slot} (hret : meth.sig.returnType = none)
    (hd : decode c.code pc = .ok (.return_, 1)) (hK : cells ≤ K) (hN : slots ≤ N) (hQ : Q none T.heap locs) : OwnEnds p.tables e below s K N Q (T.setTop (mkF m pc Ls [])) := by
  obtain ⟨fs, hr, hrun, hended, hW, hsame⟩ := X.leave (v := none) (fun _ => rfl) hlk
  exact ⟨_, _, X.returnOut hx hret hd hr, hrun, hended, _, _, rfl, hQ, ⟨_, rfl⟩, hW, hsame.mono hK hN⟩
end Own
end Jvm.OwnW
namespace Jvm.Pilot.@@N@@
open Jvm Jvm.ClassFile Sem Op Lib Jvm.Free Jvm.Stand Jvm.LawKit Jvm.RoadKit Jvm.OwnW Bundle Jvm.Pilot.@@N@@.Jvm.D
theorem own_cat {v : Value} (h : v.isRef = true) : v.category = 1 := by rcases ref_cases h with rfl | ⟨a, rfl⟩ <;> rfl
theorem own_ite {q : Prop} [Decidable q] {a b : Value} (ha : a.isRef = true) (hb : b.isRef = true) : (if q then a else b).isRef = true := by split <;> assumption
theorem own_fld {args : Array Value} {s : State} {t : Term} {C n d : String} {k : Int32} {a : Addr} (h : (Cond.eq (.field t C n d) (.int k)).value args s none s [] = some true) (ev : t.eval args s none [] s = some (.ref a)) : Fld s s.heap a C n d (.int k) := by
  obtain ⟨x, y, e1, e2, -, -⟩ := cmp_v (Or.inl h)
  have e3 : y = .int k := (Option.some.inj (e2.symm.trans (Term.int_eval k)))
  subst e3
  have e4 : s.fieldOf? a C n d = some x := by simpa [Term.eval, ev] using e1
  cases x <;> simp [Cond.value, e1, e2] at h
  subst h
  exact Fld.start e4
theorem own_len {args : Array Value} {s : State} {t : Term} {k : Int32} {a : Addr} {cl : Cell} (h : (Cond.eq (.length t) (.int k)).value args s none s [] = some true) (ev : t.eval args s none [] s = some (.ref a)) (hc : s.arrayAt? a = some cl) : cl.slots.size < 2 ^ 31 ∧ cl.slots.size.toInt32 = k := by
  obtain ⟨x, y, e1, e2, -, -⟩ := cmp_v (Or.inl h)
  have e3 : y = .int k := Option.some.inj (e2.symm.trans (Term.int_eval k))
  subst e3
  by_cases hl : cl.slots.size < 2 ^ 31
  · have e4 := len_f (args := args) (first := s) (o := none) (idx := []) ev hc hl
    refine ⟨hl, ?_⟩
    have e5 : x = .int cl.slots.size.toInt32 := Option.some.inj (e1.symm.trans e4)
    subst e5
    simpa [Cond.value, e1, e2] using h
  · exfalso
    simp [Term.eval, ev, hc, hl] at e1
theorem own_elem {args : Array Value} {s : State} {t u : Term} {j : Int32} {a b : Addr} {cl : Cell} (h : (Cond.eq (.elem t (.int j)) u).value args s none s [] = some true) (ev : t.eval args s none [] s = some (.ref a)) (evu : u.eval args s none [] s = some (.ref b)) (hc : s.heap[a]? = some cl) : cl.slots[j.toNatClampNeg]? = some (.ref b) := by
  obtain ⟨x, y, e1, e2, -, -⟩ := cmp_v (Or.inl h)
  cases e2.symm.trans evu
  obtain ⟨-, q⟩ := elem_in e1 ev (Term.int_eval j) hc
  rw [q]
  cases x <;> simp [Cond.value, e1, e2] at h ⊢
  exact h
theorem own_narb (x : Int32) : nar .byte x.toInt8.toInt32 = x.toInt8.toInt32 := by simp [nar]
def Av (Z : State) (h : Heap) (a : Addr) (ty : FieldType) (z : Int32) (vs : List Value) (d : Value) : Prop := ∃ k, Arv Z h a k ty z vs d
theorem Av.ext {Z : State} {h h' : Heap} {a : Addr} {ty : FieldType} {z : Int32} {vs : List Value} {d : Value} (F : Av Z h a ty z vs d) (E : Ext h h') : Av Z h' a ty z vs d := by obtain ⟨k, F⟩ := F; exact ⟨k, F.ext E⟩
theorem Av.other {Z : State} {h h' : Heap} {a b : Addr} {ty : FieldType} {z : Int32} {vs : List Value} {d v : Value} {sl : Nat} (F : Av Z h a ty z vs d) (W : Wr h h' b sl v) (q : a ≠ b) : Av Z h' a ty z vs d := by obtain ⟨k, F⟩ := F; exact ⟨k, F.other W q⟩
theorem Av.keep {Z : State} {h h' : Heap} {a : Addr} {ty : FieldType} {z : Int32} {vs : List Value} {d : Value} {ws : List Addr} (F : Av Z h a ty z vs d) (K : Keep h h' ws) (q : a ∉ ws) : Av Z h' a ty z vs d := by obtain ⟨k, F⟩ := F; exact ⟨k, F.keep K q⟩
theorem Av.lt {Z : State} {h : Heap} {a : Addr} {ty : FieldType} {z : Int32} {vs : List Value} {d : Value} (F : Av Z h a ty z vs d) : a < h.size := by obtain ⟨k, F⟩ := F; exact F.lt
theorem own_b8 (y : BitVec 8) : ((y.signExtend 32) &&& 255#32).signExtend 64 = y.setWidth 64 := by
  apply BitVec.eq_of_getLsbD_eq
  intro i hi
  simp only [BitVec.getLsbD_signExtend, BitVec.getLsbD_and, BitVec.getLsbD_setWidth]
  have h255 : (255#32) = BitVec.setWidth 32 (BitVec.allOnes 8) := by decide
  rw [h255]
  simp only [BitVec.getLsbD_setWidth, BitVec.getLsbD_allOnes, BitVec.msb_eq_getLsbD_last, BitVec.getLsbD_and, BitVec.getLsbD_signExtend]
  by_cases h : i < 8
  · simp [h, hi, show i < 32 by omega]
  · have h8 : y.getLsbD i = false := BitVec.getLsbD_of_ge y i (by omega)
    simp [h, hi, h8]
theorem own_bn (x : BitVec 64) : (x.signExtend 32).signExtend 8 = x.setWidth 8 := by
  apply BitVec.eq_of_getLsbD_eq
  intro i hi
  simp only [BitVec.getLsbD_signExtend, BitVec.getLsbD_setWidth, hi, show i < 32 by omega, show i < 64 by omega, decide_true, Bool.true_and, if_true]
theorem own_b64 (w : Int64) : ((w.toInt32.toInt8.toInt32 &&& 255).toInt64).toBitVec = (w.toBitVec.setWidth 8).setWidth 64 := by
  rw [Int32.toBitVec_toInt64, Int32.toBitVec_and, Int8.toBitVec_toInt32, Int32.toBitVec_toInt8, Int64.toBitVec_toInt32, own_bn, ← own_b8]
  rfl
theorem own_sh (v : Int64) (k : Int32) (n : Nat) (hk : (k &&& 0x3f).toInt64.toUInt64.toBitVec % 64#64 = BitVec.ofNat 64 n) (hn : n < 64) : ((v.toUInt64 >>> (k &&& 0x3f).toInt64.toUInt64).toInt64).toBitVec = v.toBitVec >>> n := by
  show v.toBitVec >>> ((k &&& 0x3f).toInt64.toUInt64.toBitVec % 64#64) = _
  rw [hk]
  show v.toBitVec >>> (BitVec.ofNat 64 n).toNat = _
  rw [BitVec.toNat_ofNat, Nat.mod_eq_of_lt (by omega)]
theorem own_shl (x : Int64) (k : Int32) (n : Nat) (hk : ((k &&& 0x3f).toInt64.toBitVec.smod 64) = BitVec.ofNat 64 n) (hn : n < 64) : (x <<< (k &&& 0x3f).toInt64).toBitVec = x.toBitVec <<< n := by
  show x.toBitVec <<< ((k &&& 0x3f).toInt64.toBitVec.smod 64) = _
  rw [hk]
  show x.toBitVec <<< (BitVec.ofNat 64 n).toNat = _
  rw [BitVec.toNat_ofNat, Nat.mod_eq_of_lt (by omega)]
theorem own_bits (x : BitVec 64) : (((((((((((x >>> 56).setWidth 8).setWidth 64) <<< 56) ||| ((((x >>> 48).setWidth 8).setWidth 64) <<< 48)) ||| ((((x >>> 40).setWidth 8).setWidth 64) <<< 40)) ||| ((((x >>> 32).setWidth 8).setWidth 64) <<< 32)) ||| ((((x >>> 24).setWidth 8).setWidth 64) <<< 24)) ||| ((((x >>> 16).setWidth 8).setWidth 64) <<< 16)) ||| ((((x >>> 8).setWidth 8).setWidth 64) <<< 8)) ||| ((x.setWidth 8).setWidth 64)) = x := by
  apply BitVec.eq_of_getLsbD_eq
  intro i hi
  simp only [BitVec.getLsbD_or, BitVec.getLsbD_shiftLeft, BitVec.getLsbD_setWidth, BitVec.getLsbD_ushiftRight, hi, decide_true, Bool.true_and]
  rcases (by omega : (0 ≤ i ∧ i < 8) ∨ (8 ≤ i ∧ i < 16) ∨ (16 ≤ i ∧ i < 24) ∨ (24 ≤ i ∧ i < 32) ∨ (32 ≤ i ∧ i < 40) ∨ (40 ≤ i ∧ i < 48) ∨ (48 ≤ i ∧ i < 56) ∨ (56 ≤ i ∧ i < 64)) with h | h | h | h | h | h | h | h
  · simp only [show i < 8 by omega, show i < 16 by omega, show i < 24 by omega, show i < 32 by omega, show i < 40 by omega, show i < 48 by omega, show i < 56 by omega, decide_true, decide_false, Bool.not_true, Bool.not_false, Bool.false_and, Bool.true_and, Bool.and_false, Bool.or_false, Bool.false_or]
  · simp only [show ¬ i < 8 by omega, show i - 8 < 8 by omega, show i - 8 < 64 by omega, show 8 + (i - 8) = i by omega, show i < 16 by omega, show i < 24 by omega, show i < 32 by omega, show i < 40 by omega, show i < 48 by omega, show i < 56 by omega, decide_true, decide_false, Bool.not_true, Bool.not_false, Bool.false_and, Bool.true_and, Bool.and_false, Bool.or_false, Bool.false_or]
  · simp only [show ¬ i < 8 by omega, show ¬ i - 8 < 8 by omega, show ¬ i < 16 by omega, show i - 16 < 8 by omega, show i - 16 < 64 by omega, show 16 + (i - 16) = i by omega, show i < 24 by omega, show i < 32 by omega, show i < 40 by omega, show i < 48 by omega, show i < 56 by omega, decide_true, decide_false, Bool.not_true, Bool.not_false, Bool.false_and, Bool.true_and, Bool.and_false, Bool.or_false, Bool.false_or]
  · simp only [show ¬ i < 8 by omega, show ¬ i - 8 < 8 by omega, show ¬ i < 16 by omega, show ¬ i - 16 < 8 by omega, show ¬ i < 24 by omega, show i - 24 < 8 by omega, show i - 24 < 64 by omega, show 24 + (i - 24) = i by omega, show i < 32 by omega, show i < 40 by omega, show i < 48 by omega, show i < 56 by omega, decide_true, decide_false, Bool.not_true, Bool.not_false, Bool.false_and, Bool.true_and, Bool.and_false, Bool.or_false, Bool.false_or]
  · simp only [show ¬ i < 8 by omega, show ¬ i - 8 < 8 by omega, show ¬ i < 16 by omega, show ¬ i - 16 < 8 by omega, show ¬ i < 24 by omega, show ¬ i - 24 < 8 by omega, show ¬ i < 32 by omega, show i - 32 < 8 by omega, show i - 32 < 64 by omega, show 32 + (i - 32) = i by omega, show i < 40 by omega, show i < 48 by omega, show i < 56 by omega, decide_true, decide_false, Bool.not_true, Bool.not_false, Bool.false_and, Bool.true_and, Bool.and_false, Bool.or_false, Bool.false_or]
  · simp only [show ¬ i < 8 by omega, show ¬ i - 8 < 8 by omega, show ¬ i < 16 by omega, show ¬ i - 16 < 8 by omega, show ¬ i < 24 by omega, show ¬ i - 24 < 8 by omega, show ¬ i < 32 by omega, show ¬ i - 32 < 8 by omega, show ¬ i < 40 by omega, show i - 40 < 8 by omega, show i - 40 < 64 by omega, show 40 + (i - 40) = i by omega, show i < 48 by omega, show i < 56 by omega, decide_true, decide_false, Bool.not_true, Bool.not_false, Bool.false_and, Bool.true_and, Bool.and_false, Bool.or_false, Bool.false_or]
  · simp only [show ¬ i < 8 by omega, show ¬ i - 8 < 8 by omega, show ¬ i < 16 by omega, show ¬ i - 16 < 8 by omega, show ¬ i < 24 by omega, show ¬ i - 24 < 8 by omega, show ¬ i < 32 by omega, show ¬ i - 32 < 8 by omega, show ¬ i < 40 by omega, show ¬ i - 40 < 8 by omega, show ¬ i < 48 by omega, show i - 48 < 8 by omega, show i - 48 < 64 by omega, show 48 + (i - 48) = i by omega, show i < 56 by omega, decide_true, decide_false, Bool.not_true, Bool.not_false, Bool.false_and, Bool.true_and, Bool.and_false, Bool.or_false, Bool.false_or]
  · simp only [show ¬ i < 8 by omega, show ¬ i - 8 < 8 by omega, show ¬ i < 16 by omega, show ¬ i - 16 < 8 by omega, show ¬ i < 24 by omega, show ¬ i - 24 < 8 by omega, show ¬ i < 32 by omega, show ¬ i - 32 < 8 by omega, show ¬ i < 40 by omega, show ¬ i - 40 < 8 by omega, show ¬ i < 48 by omega, show ¬ i - 48 < 8 by omega, show ¬ i < 56 by omega, show i - 56 < 8 by omega, show i - 56 < 64 by omega, show 56 + (i - 56) = i by omega, decide_true, decide_false, Bool.not_true, Bool.not_false, Bool.false_and, Bool.true_and, Bool.and_false, Bool.or_false, Bool.false_or]

def own_get8 (b0 b1 b2 b3 b4 b5 b6 b7 : Int32) : Int64 := (((((((((b0 &&& (255 : Int32)).toInt64 <<< ((56 : Int32) &&& 0x3f).toInt64) ||| ((b1 &&& (255 : Int32)).toInt64 <<< ((48 : Int32) &&& 0x3f).toInt64)) ||| ((b2 &&& (255 : Int32)).toInt64 <<< ((40 : Int32) &&& 0x3f).toInt64)) ||| ((b3 &&& (255 : Int32)).toInt64 <<< ((32 : Int32) &&& 0x3f).toInt64)) ||| ((b4 &&& (255 : Int32)).toInt64 <<< ((24 : Int32) &&& 0x3f).toInt64)) ||| ((b5 &&& (255 : Int32)).toInt64 <<< ((16 : Int32) &&& 0x3f).toInt64)) ||| ((b6 &&& (255 : Int32)).toInt64 <<< ((8 : Int32) &&& 0x3f).toInt64)) ||| ((b7 &&& (255 : Int32)).toInt64))
theorem own_join (v : Int64) : own_get8 (((((v.toUInt64 >>> ((56 : Int32) &&& 0x3f).toInt64.toUInt64).toInt64).toInt32)).toInt8.toInt32) (((((v.toUInt64 >>> ((48 : Int32) &&& 0x3f).toInt64.toUInt64).toInt64).toInt32)).toInt8.toInt32) (((((v.toUInt64 >>> ((40 : Int32) &&& 0x3f).toInt64.toUInt64).toInt64).toInt32)).toInt8.toInt32) (((((v.toUInt64 >>> ((32 : Int32) &&& 0x3f).toInt64.toUInt64).toInt64).toInt32)).toInt8.toInt32) (((((v.toUInt64 >>> ((24 : Int32) &&& 0x3f).toInt64.toUInt64).toInt64).toInt32)).toInt8.toInt32) (((((v.toUInt64 >>> ((16 : Int32) &&& 0x3f).toInt64.toUInt64).toInt64).toInt32)).toInt8.toInt32) (((((v.toUInt64 >>> ((8 : Int32) &&& 0x3f).toInt64.toUInt64).toInt64).toInt32)).toInt8.toInt32) ((v.toInt32).toInt8.toInt32) = v := by
  apply Int64.toBitVec_inj.mp
  unfold own_get8
  simp only [Int64.toBitVec_or]
  rw [own_shl _ 56 56 (by decide) (by decide), own_shl _ 48 48 (by decide) (by decide), own_shl _ 40 40 (by decide) (by decide), own_shl _ 32 32 (by decide) (by decide), own_shl _ 24 24 (by decide) (by decide), own_shl _ 16 16 (by decide) (by decide), own_shl _ 8 8 (by decide) (by decide)]
  simp only [own_b64]
  rw [own_sh v 56 56 (by decide) (by decide), own_sh v 48 48 (by decide) (by decide), own_sh v 40 40 (by decide) (by decide), own_sh v 32 32 (by decide) (by decide), own_sh v 24 24 (by decide) (by decide), own_sh v 16 16 (by decide) (by decide), own_sh v 8 8 (by decide) (by decide)]
  exact own_bits v.toBitVec

def own_at (vs : List Value) (i : Nat) : Int32 := match vs.getD i (.int 0) with
  | .int x => x
  | _ => 0
def IntsL (vs : List Value) : Prop := ∀ i, ∃ x : Int32, vs.getD i (.int 0) = .int x
theorem own_at_eq {vs : List Value} (h : IntsL vs) (i : Nat) : vs.getD i (.int 0) = .int (own_at vs i) := by
  obtain ⟨x, e⟩ := h i
  unfold own_at
  rw [e]
def own_put (vs : List Value) (n : Nat) (v : Int64) : List Value := ((((((((vs.set (n + 0) (.int (((((v.toUInt64 >>> ((56 : Int32) &&& 0x3f).toInt64.toUInt64).toInt64).toInt32)).toInt8.toInt32))).set (n + 1) (.int (((((v.toUInt64 >>> ((48 : Int32) &&& 0x3f).toInt64.toUInt64).toInt64).toInt32)).toInt8.toInt32))).set (n + 2) (.int (((((v.toUInt64 >>> ((40 : Int32) &&& 0x3f).toInt64.toUInt64).toInt64).toInt32)).toInt8.toInt32))).set (n + 3) (.int (((((v.toUInt64 >>> ((32 : Int32) &&& 0x3f).toInt64.toUInt64).toInt64).toInt32)).toInt8.toInt32))).set (n + 4) (.int (((((v.toUInt64 >>> ((24 : Int32) &&& 0x3f).toInt64.toUInt64).toInt64).toInt32)).toInt8.toInt32))).set (n + 5) (.int (((((v.toUInt64 >>> ((16 : Int32) &&& 0x3f).toInt64.toUInt64).toInt64).toInt32)).toInt8.toInt32))).set (n + 6) (.int (((((v.toUInt64 >>> ((8 : Int32) &&& 0x3f).toInt64.toUInt64).toInt64).toInt32)).toInt8.toInt32))).set (n + 7) (.int ((v.toInt32).toInt8.toInt32)))
theorem IntsL.set {vs : List Value} (h : IntsL vs) (n : Nat) (x : Int32) : IntsL (vs.set n (.int x)) := by
  intro i
  simp only [List.getD_eq_getElem?_getD, List.getElem?_set]
  by_cases q : n = i
  · subst q
    by_cases l : n < vs.length
    · exact ⟨x, by simp [l]⟩
    · exact ⟨0, by simp [l]⟩
  · obtain ⟨y, e⟩ := h i
    exact ⟨y, by simp only [q, if_false]; rwa [List.getD_eq_getElem?_getD] at e⟩
theorem IntsL.put {vs : List Value} (h : IntsL vs) (n : Nat) (v : Int64) : IntsL (own_put vs n v) := (((((((h.set _ _).set _ _).set _ _).set _ _).set _ _).set _ _).set _ _).set _ _
def own_z : List Value := List.replicate 48 (.int 0)
theorem IntsL.z : IntsL own_z := by
  intro i
  refine ⟨0, ?_⟩
  simp only [own_z, List.getD_eq_getElem?_getD, List.getElem?_replicate]
  split <;> rfl
theorem own_put_len (vs : List Value) (n : Nat) (v : Int64) : (own_put vs n v).length = vs.length := by simp only [own_put, List.length_set]
def own_get (vs : List Value) (n : Nat) : Int64 := own_get8 (own_at vs (n + 0)) (own_at vs (n + 1)) (own_at vs (n + 2)) (own_at vs (n + 3)) (own_at vs (n + 4)) (own_at vs (n + 5)) (own_at vs (n + 6)) (own_at vs (n + 7))
theorem own_at_hit {vs : List Value} {n : Nat} {x : Int32} (h : n < vs.length) : own_at (vs.set n (.int x)) n = x := by
  unfold own_at
  rw [List.getD_eq_getElem?_getD, List.getElem?_set_self h]
  rfl
theorem own_at_miss {vs : List Value} {n m : Nat} {x : Value} (h : n ≠ m) : own_at (vs.set n x) m = own_at vs m := by
  unfold own_at
  rw [List.getD_eq_getElem?_getD, List.getD_eq_getElem?_getD, List.getElem?_set_ne h]
theorem own_put_far {vs : List Value} {n m : Nat} {v : Int64} (h : m < n ∨ n + 7 < m) : own_at (own_put vs n v) m = own_at vs m := by
  unfold own_put
  rw [own_at_miss (by omega), own_at_miss (by omega), own_at_miss (by omega), own_at_miss (by omega), own_at_miss (by omega), own_at_miss (by omega), own_at_miss (by omega), own_at_miss (by omega)]
theorem own_get_far {vs : List Value} {n m : Nat} {v : Int64} (h : m + 7 < n ∨ n + 7 < m) : own_get (own_put vs n v) m = own_get vs m := by
  unfold own_get
  rw [own_put_far (by omega), own_put_far (by omega), own_put_far (by omega), own_put_far (by omega), own_put_far (by omega), own_put_far (by omega), own_put_far (by omega), own_put_far (by omega)]
theorem own_get_same {vs : List Value} {n : Nat} {v : Int64} (h : n + 7 < vs.length) : own_get (own_put vs n v) n = v := by
  have h0 : own_at (own_put vs n v) (n + 0) = (((((v.toUInt64 >>> ((56 : Int32) &&& 0x3f).toInt64.toUInt64).toInt64).toInt32)).toInt8.toInt32) := by
    unfold own_put
    rw [own_at_miss (by omega), own_at_miss (by omega), own_at_miss (by omega), own_at_miss (by omega), own_at_miss (by omega), own_at_miss (by omega), own_at_miss (by omega), own_at_hit (by (try simp only [List.length_set]); omega)]
  have h1 : own_at (own_put vs n v) (n + 1) = (((((v.toUInt64 >>> ((48 : Int32) &&& 0x3f).toInt64.toUInt64).toInt64).toInt32)).toInt8.toInt32) := by
    unfold own_put
    rw [own_at_miss (by omega), own_at_miss (by omega), own_at_miss (by omega), own_at_miss (by omega), own_at_miss (by omega), own_at_miss (by omega), own_at_hit (by (try simp only [List.length_set]); omega)]
  have h2 : own_at (own_put vs n v) (n + 2) = (((((v.toUInt64 >>> ((40 : Int32) &&& 0x3f).toInt64.toUInt64).toInt64).toInt32)).toInt8.toInt32) := by
    unfold own_put
    rw [own_at_miss (by omega), own_at_miss (by omega), own_at_miss (by omega), own_at_miss (by omega), own_at_miss (by omega), own_at_hit (by (try simp only [List.length_set]); omega)]
  have h3 : own_at (own_put vs n v) (n + 3) = (((((v.toUInt64 >>> ((32 : Int32) &&& 0x3f).toInt64.toUInt64).toInt64).toInt32)).toInt8.toInt32) := by
    unfold own_put
    rw [own_at_miss (by omega), own_at_miss (by omega), own_at_miss (by omega), own_at_miss (by omega), own_at_hit (by (try simp only [List.length_set]); omega)]
  have h4 : own_at (own_put vs n v) (n + 4) = (((((v.toUInt64 >>> ((24 : Int32) &&& 0x3f).toInt64.toUInt64).toInt64).toInt32)).toInt8.toInt32) := by
    unfold own_put
    rw [own_at_miss (by omega), own_at_miss (by omega), own_at_miss (by omega), own_at_hit (by (try simp only [List.length_set]); omega)]
  have h5 : own_at (own_put vs n v) (n + 5) = (((((v.toUInt64 >>> ((16 : Int32) &&& 0x3f).toInt64.toUInt64).toInt64).toInt32)).toInt8.toInt32) := by
    unfold own_put
    rw [own_at_miss (by omega), own_at_miss (by omega), own_at_hit (by (try simp only [List.length_set]); omega)]
  have h6 : own_at (own_put vs n v) (n + 6) = (((((v.toUInt64 >>> ((8 : Int32) &&& 0x3f).toInt64.toUInt64).toInt64).toInt32)).toInt8.toInt32) := by
    unfold own_put
    rw [own_at_miss (by omega), own_at_hit (by (try simp only [List.length_set]); omega)]
  have h7 : own_at (own_put vs n v) (n + 7) = ((v.toInt32).toInt8.toInt32) := by
    unfold own_put
    rw [own_at_hit (by (try simp only [List.length_set]); omega)]
  unfold own_get
  rw [h0, h1, h2, h3, h4, h5, h6, h7]
  exact own_join v
theorem own_ix {p : Int32} (ho : 0 ≤ p.toInt ∧ p.toInt ≤ 40) (k : Int32) (n : Nat) (hk : k.toInt = n) (hn : n ≤ 7) : (¬ (p + k) < 0 ∧ (p + k) < 48) ∧ (p + k).toNatClampNeg = p.toNatClampNeg + n := by
  have e : (p + k).toInt = p.toInt + n := by rw [Jvm.Kit.i32_add (by omega) (by omega), hk]
  have a : (0 : Int32).toInt = 0 := rfl
  have b : (48 : Int32).toInt = 48 := by decide
  refine ⟨⟨?_, ?_⟩, ?_⟩
  · rw [Int32.lt_iff_toInt_lt]; omega
  · rw [Int32.lt_iff_toInt_lt]; omega
  · show (p + k).toInt.toNat = p.toInt.toNat + n
    omega
theorem own_ix0 {p : Int32} (ho : 0 ≤ p.toInt ∧ p.toInt ≤ 40) : (¬ p < 0 ∧ p < 48) ∧ p.toNatClampNeg = p.toNatClampNeg + 0 := by
  have a : (0 : Int32).toInt = 0 := rfl
  have b : (48 : Int32).toInt = 48 := by decide
  refine ⟨⟨?_, ?_⟩, rfl⟩
  · rw [Int32.lt_iff_toInt_lt]; omega
  · rw [Int32.lt_iff_toInt_lt]; omega
theorem own_n40 {p : Int32} (ho : 0 ≤ p.toInt ∧ p.toInt ≤ 40) : p.toNatClampNeg ≤ 40 := by
  show p.toInt.toNat ≤ 40
  omega
theorem own_kb (x : Int64) : ¬ ((x &&& 2147483647).toInt32 % 48) < 0 ∧ ((x &&& 2147483647).toInt32 % 48) < 48 := by
  have e1 : (x &&& 2147483647).toInt = x.toInt % 2 ^ 31 := Jvm.Kit.i64_mask x 2147483647 (k := 31) (by decide) (by decide)
  have e2 : (x &&& 2147483647).toInt32.toInt = (x &&& 2147483647).toInt := Jvm.Kit.i32_of_i64 (by omega) (by omega)
  have e3 := Jvm.Kit.i32_rem_nonneg (x := (x &&& 2147483647).toInt32) (y := 48) (by omega)
  have b : (48 : Int32).toInt = 48 := by decide
  have z : (0 : Int32).toInt = 0 := rfl
  rw [b] at e3
  rw [Int32.lt_iff_toInt_lt, Int32.lt_iff_toInt_lt, e3]
  omega
theorem d1_0 : decode method_2_code 0 = .ok (.aload_n 0, 1) := by decide +kernel
theorem d1_1 : decode method_2_code 1 = .ok (.iload_n 1, 1) := by decide +kernel
theorem d1_2 : decode method_2_code 2 = .ok (.lload_n 2, 1) := by decide +kernel
theorem d1_3 : decode method_2_code 3 = .ok (.bipush 56, 2) := by decide +kernel
theorem d1_5 : decode method_2_code 5 = .ok (.lushr, 1) := by decide +kernel
theorem d1_6 : decode method_2_code 6 = .ok (.l2i, 1) := by decide +kernel
theorem d1_7 : decode method_2_code 7 = .ok (.i2b, 1) := by decide +kernel
theorem d1_8 : decode method_2_code 8 = .ok (.bastore, 1) := by decide +kernel
theorem d1_9 : decode method_2_code 9 = .ok (.aload_n 0, 1) := by decide +kernel
theorem d1_10 : decode method_2_code 10 = .ok (.iload_n 1, 1) := by decide +kernel
theorem d1_11 : decode method_2_code 11 = .ok (.iconst 1, 1) := by decide +kernel
theorem d1_12 : decode method_2_code 12 = .ok (.iadd, 1) := by decide +kernel
theorem d1_13 : decode method_2_code 13 = .ok (.lload_n 2, 1) := by decide +kernel
theorem d1_14 : decode method_2_code 14 = .ok (.bipush 48, 2) := by decide +kernel
theorem d1_16 : decode method_2_code 16 = .ok (.lushr, 1) := by decide +kernel
theorem d1_17 : decode method_2_code 17 = .ok (.l2i, 1) := by decide +kernel
theorem d1_18 : decode method_2_code 18 = .ok (.i2b, 1) := by decide +kernel
theorem d1_19 : decode method_2_code 19 = .ok (.bastore, 1) := by decide +kernel
theorem d1_20 : decode method_2_code 20 = .ok (.aload_n 0, 1) := by decide +kernel
theorem d1_21 : decode method_2_code 21 = .ok (.iload_n 1, 1) := by decide +kernel
theorem d1_22 : decode method_2_code 22 = .ok (.iconst 2, 1) := by decide +kernel
theorem d1_23 : decode method_2_code 23 = .ok (.iadd, 1) := by decide +kernel
theorem d1_24 : decode method_2_code 24 = .ok (.lload_n 2, 1) := by decide +kernel
theorem d1_25 : decode method_2_code 25 = .ok (.bipush 40, 2) := by decide +kernel
theorem d1_27 : decode method_2_code 27 = .ok (.lushr, 1) := by decide +kernel
theorem d1_28 : decode method_2_code 28 = .ok (.l2i, 1) := by decide +kernel
theorem d1_29 : decode method_2_code 29 = .ok (.i2b, 1) := by decide +kernel
theorem d1_30 : decode method_2_code 30 = .ok (.bastore, 1) := by decide +kernel
theorem d1_31 : decode method_2_code 31 = .ok (.aload_n 0, 1) := by decide +kernel
theorem d1_32 : decode method_2_code 32 = .ok (.iload_n 1, 1) := by decide +kernel
theorem d1_33 : decode method_2_code 33 = .ok (.iconst 3, 1) := by decide +kernel
theorem d1_34 : decode method_2_code 34 = .ok (.iadd, 1) := by decide +kernel
theorem d1_35 : decode method_2_code 35 = .ok (.lload_n 2, 1) := by decide +kernel
theorem d1_36 : decode method_2_code 36 = .ok (.bipush 32, 2) := by decide +kernel
theorem d1_38 : decode method_2_code 38 = .ok (.lushr, 1) := by decide +kernel
theorem d1_39 : decode method_2_code 39 = .ok (.l2i, 1) := by decide +kernel
theorem d1_40 : decode method_2_code 40 = .ok (.i2b, 1) := by decide +kernel
theorem d1_41 : decode method_2_code 41 = .ok (.bastore, 1) := by decide +kernel
theorem d1_42 : decode method_2_code 42 = .ok (.aload_n 0, 1) := by decide +kernel
theorem d1_43 : decode method_2_code 43 = .ok (.iload_n 1, 1) := by decide +kernel
theorem d1_44 : decode method_2_code 44 = .ok (.iconst 4, 1) := by decide +kernel
theorem d1_45 : decode method_2_code 45 = .ok (.iadd, 1) := by decide +kernel
theorem d1_46 : decode method_2_code 46 = .ok (.lload_n 2, 1) := by decide +kernel
theorem d1_47 : decode method_2_code 47 = .ok (.bipush 24, 2) := by decide +kernel
theorem d1_49 : decode method_2_code 49 = .ok (.lushr, 1) := by decide +kernel
theorem d1_50 : decode method_2_code 50 = .ok (.l2i, 1) := by decide +kernel
theorem d1_51 : decode method_2_code 51 = .ok (.i2b, 1) := by decide +kernel
theorem d1_52 : decode method_2_code 52 = .ok (.bastore, 1) := by decide +kernel
theorem d1_53 : decode method_2_code 53 = .ok (.aload_n 0, 1) := by decide +kernel
theorem d1_54 : decode method_2_code 54 = .ok (.iload_n 1, 1) := by decide +kernel
theorem d1_55 : decode method_2_code 55 = .ok (.iconst 5, 1) := by decide +kernel
theorem d1_56 : decode method_2_code 56 = .ok (.iadd, 1) := by decide +kernel
theorem d1_57 : decode method_2_code 57 = .ok (.lload_n 2, 1) := by decide +kernel
theorem d1_58 : decode method_2_code 58 = .ok (.bipush 16, 2) := by decide +kernel
theorem d1_60 : decode method_2_code 60 = .ok (.lushr, 1) := by decide +kernel
theorem d1_61 : decode method_2_code 61 = .ok (.l2i, 1) := by decide +kernel
theorem d1_62 : decode method_2_code 62 = .ok (.i2b, 1) := by decide +kernel
theorem d1_63 : decode method_2_code 63 = .ok (.bastore, 1) := by decide +kernel
theorem d1_64 : decode method_2_code 64 = .ok (.aload_n 0, 1) := by decide +kernel
theorem d1_65 : decode method_2_code 65 = .ok (.iload_n 1, 1) := by decide +kernel
theorem d1_66 : decode method_2_code 66 = .ok (.bipush 6, 2) := by decide +kernel
theorem d1_68 : decode method_2_code 68 = .ok (.iadd, 1) := by decide +kernel
theorem d1_69 : decode method_2_code 69 = .ok (.lload_n 2, 1) := by decide +kernel
theorem d1_70 : decode method_2_code 70 = .ok (.bipush 8, 2) := by decide +kernel
theorem d1_72 : decode method_2_code 72 = .ok (.lushr, 1) := by decide +kernel
theorem d1_73 : decode method_2_code 73 = .ok (.l2i, 1) := by decide +kernel
theorem d1_74 : decode method_2_code 74 = .ok (.i2b, 1) := by decide +kernel
theorem d1_75 : decode method_2_code 75 = .ok (.bastore, 1) := by decide +kernel
theorem d1_76 : decode method_2_code 76 = .ok (.aload_n 0, 1) := by decide +kernel
theorem d1_77 : decode method_2_code 77 = .ok (.iload_n 1, 1) := by decide +kernel
theorem d1_78 : decode method_2_code 78 = .ok (.bipush 7, 2) := by decide +kernel
theorem d1_80 : decode method_2_code 80 = .ok (.iadd, 1) := by decide +kernel
theorem d1_81 : decode method_2_code 81 = .ok (.lload_n 2, 1) := by decide +kernel
theorem d1_82 : decode method_2_code 82 = .ok (.l2i, 1) := by decide +kernel
theorem d1_83 : decode method_2_code 83 = .ok (.i2b, 1) := by decide +kernel
theorem d1_84 : decode method_2_code 84 = .ok (.bastore, 1) := by decide +kernel
theorem d1_85 : decode method_2_code 85 = .ok (.return_, 1) := by decide +kernel
theorem pn_PinHashOfStoredPinLaw : plainName "com/example/opaque_token/opaquetoken/token/PinHashOfStoredPinLaw" = true := by first | (simp [plainName, overriddenIn]; done) | decide +kernel
theorem ef_1 (m : MethodId) (x0 : Addr) (x1 : Int32) (x2 : Int64) : entryFrame m #[(.ref x0), (.int x1), (.long x2)] 4 = mkF m 0 #[.val (.ref x0), .val (.int x1), .val (.long x2), .second] [] := by first | (simp [entryFrame, mkF, argsToLocals, Value.category]; done) | rfl
def Q1 (Z : State) (a1 : Addr) (p1 : Int32) (q1 : Int64) (vs1 : List Value) (h0 : Heap) (n0 : Nat) (v : Option Value) (h : Heap) (L : List Loc) : Prop := v = none ∧ Fr n0 L ∧ Keep h0 h [a1] ∧ Av Z h a1 .byte (48 : Int32) (own_put vs1 p1.toNatClampNeg q1) (.int (0 : Int32))
set_option maxRecDepth 65536 in
set_option maxHeartbeats 40000000 in
theorem rm1 (l : Launch) (Z : State) (a0 : Array Value) (hw : ∀ d ∈ tables_1, d.before a0 Z = true) (ws : List Jvm.Cond) (a1 : Addr) (p1 : Int32) (q1 : Int64) (vs1 : List Value) (h0 : Heap) (n0 : Nat) (Z0 : n0 ≤ h0.size) (OLD : Old Z n0 h0) (V_1 : Av Z h0 a1 .byte (48 : Int32) vs1 (.int (0 : Int32))) (g1 : n0 ≤ a1) (hl : vs1.length = 48) (ho : 0 ≤ p1.toInt ∧ p1.toInt ≤ 40) :
    MetFree l (⟨"com/example/opaque_token/opaquetoken/token/PinHashOfStoredPinLaw", "put", "([BIJ)V"⟩ : MethodName) (head1 (Jvm.Cond.code (⟨"com/example/opaque_token/opaquetoken/token/PinHashOfStoredPinLaw", "put", "([BIJ)V"⟩ : MethodName) method_2_code 4 none :: ws) ({ frames := 0, cells := 0, slots := 0, locals := 0 } : Room)) (fun a U => a = #[(.ref a1), (.int p1), (.long q1)] ∧ Z.Warmed39 U.vm ∧ U.heap = h0) (fun _ _ _ _ _ => True) (fun _ U o U' => ∃ v L, o = .returned v ∧ Q1 Z a1 p1 q1 vs1 h0 n0 v U'.heap L ∧ FrameEnd U o U' L ({ frames := 0, cells := 0, slots := 0, locals := 0 } : Room).cells ({ frames := 0, cells := 0, slots := 0, locals := 0 } : Room).slots) := by
  refine MetFree.of_bodySF (plainFor_of_name pn_PinHashOfStoredPinLaw) hisR ?_
  intro p e s m args below meth c s₁ Bd hml0 hP hK
  obtain ⟨rfl, hZ, hh⟩ := hP
  have hx := Bd.exec
  have hby := Bd.bytes
  have hml : c.maxLocals = 4 := hml0
  have hown : s.vm.findClass "com/example/opaque_token/opaquetoken/token/PinHashOfStoredPinLaw" = some m.cls := findClass_of_methodNamed Bd.named
  have hnm := (name_of_methodNamed Bd.named Bd.method).1
  have hlk : meth.locks = false := BodyLoose.notSynchronized Bd
  have hret := Bd.returns
  have X0 : Stand p l e ({ frames := 0, cells := 0, slots := 0, locals := 0 } : Room) s m #[(.ref a1), (.int p1), (.long q1)] below meth c s₁ [] 0 0 := Stand.of_body Bd
  have e0 : s₁.heap = h0 := by rw [← hh, Bd.state]; rfl
  have N0 := Fr.nil n0
  refine ogo (U' := s₁.setTop (mkF m 0 #[.val (.ref a1), .val (.int p1), .val (.long q1), .second] [])) (Q := Q1 Z a1 p1 q1 vs1 h0 n0) (K := ({ frames := 0, cells := 0, slots := 0, locals := 0 } : Room).cells) (N := ({ frames := 0, cells := 0, slots := 0, locals := 0 } : Room).slots) (fun t k => castTop (ef_1 m a1 p1 q1) k) ?_
  have hn40 := own_n40 ho
  show OwnEnds _ _ _ _ _ _ _ (s₁.setTop (mkF m 0 #[.val (.ref a1), .val (.int p1), .val (.long q1), .second] []))
  refine ogo (fun t k => XS.aloadN X0.here hx rfl (hb hby d1_0) rfl rfl k) ?_
  show OwnEnds _ _ _ _ _ _ _ (s₁.setTop (mkF m 1 #[.val (.ref a1), .val (.int p1), .val (.long q1), .second] [(.ref a1)]))
  refine ogo (fun t k => XS.iloadN X0.here hx rfl (hb hby d1_1) rfl k) ?_
  show OwnEnds _ _ _ _ _ _ _ (s₁.setTop (mkF m 2 #[.val (.ref a1), .val (.int p1), .val (.long q1), .second] [(.int p1), (.ref a1)]))
  refine ogo (fun t k => XS.lloadN X0.here hx rfl (hb hby d1_2) rfl k) ?_
  show OwnEnds _ _ _ _ _ _ _ (s₁.setTop (mkF m 3 #[.val (.ref a1), .val (.int p1), .val (.long q1), .second] [(.long q1), (.int p1), (.ref a1)]))
  refine ogo (fun t k => XS.bipush X0.here hx rfl (hb hby d1_3) k) ?_
  show OwnEnds _ _ _ _ _ _ _ (s₁.setTop (mkF m 5 #[.val (.ref a1), .val (.int p1), .val (.long q1), .second] [(.int (56 : Int32)), (.long q1), (.int p1), (.ref a1)]))
  refine ogo (fun t k => XS.lushr X0.here hx rfl (hb hby d1_5) rfl k) ?_
  show OwnEnds _ _ _ _ _ _ _ (s₁.setTop (mkF m 6 #[.val (.ref a1), .val (.int p1), .val (.long q1), .second] [(.long ((q1.toUInt64 >>> ((56 : Int32) &&& 0x3f).toInt64.toUInt64).toInt64)), (.int p1), (.ref a1)]))
  refine ogo (fun t k => XS.l2i X0.here hx rfl (hb hby d1_6) rfl k) ?_
  show OwnEnds _ _ _ _ _ _ _ (s₁.setTop (mkF m 7 #[.val (.ref a1), .val (.int p1), .val (.long q1), .second] [(.int (((q1.toUInt64 >>> ((56 : Int32) &&& 0x3f).toInt64.toUInt64).toInt64).toInt32)), (.int p1), (.ref a1)]))
  refine ogo (fun t k => XS.i2b X0.here hx rfl (hb hby d1_7) rfl k) ?_
  show OwnEnds _ _ _ _ _ _ _ (s₁.setTop (mkF m 8 #[.val (.ref a1), .val (.int p1), .val (.long q1), .second] [(.int ((((q1.toUInt64 >>> ((56 : Int32) &&& 0x3f).toInt64.toUInt64).toInt64).toInt32).toInt8.toInt32)), (.int p1), (.ref a1)]))
  obtain ⟨ak1, cl1, Ar1, Aq1, As1, An1, Ah1, Ag1⟩ := id V_1
  obtain ⟨T1, h1, X1, e1, W1, st1⟩ := stB X0 hx hZ e0 Ar1 (j := p1) (inb_of As1 (own_ix0 ho).1) (g := (mkF m 8 #[.val (.ref a1), .val (.int p1), .val (.long q1), .second] [(.int ((((q1.toUInt64 >>> ((56 : Int32) &&& 0x3f).toInt64.toUInt64).toInt64).toInt32).toInt8.toInt32)), (.int p1), (.ref a1)])) rfl rfl (hb hby d1_8)
  rw [own_narb] at W1
  have V1 : Arv Z h1 a1 ak1 .byte (48 : Int32) (vs1.set (p1.toNatClampNeg + 0) (.int ((((q1.toUInt64 >>> ((56 : Int32) &&& 0x3f).toInt64.toUInt64).toInt64).toInt32).toInt8.toInt32))) (.int (0 : Int32)) := Arv.set Ar1 Aq1 As1 An1 Ah1 Ag1 (fits_nar_byte _) W1 (p1.toNatClampNeg + 0) (own_ix0 ho).2 (by (try simp only [List.length_set]); omega)
  have N2 := Fr.snoc X1 N0 g1
  have OLD2 := OLD.wr W1 g1
  have K2 := (Keep.refl h0 [a1]).wr W1 (Or.inl (List.mem_of_getElem? (i := 0) rfl))
  have Z2 := Nat.le_trans Z0 (Nat.le_of_eq W1.size.symm)
  refine ogo st1 ?_
  show OwnEnds _ _ _ _ _ _ _ (T1.setTop (mkF m 9 #[.val (.ref a1), .val (.int p1), .val (.long q1), .second] []))
  refine ogo (fun t k => XS.aloadN X1.here hx rfl (hb hby d1_9) rfl rfl k) ?_
  show OwnEnds _ _ _ _ _ _ _ (T1.setTop (mkF m 10 #[.val (.ref a1), .val (.int p1), .val (.long q1), .second] [(.ref a1)]))
  refine ogo (fun t k => XS.iloadN X1.here hx rfl (hb hby d1_10) rfl k) ?_
  show OwnEnds _ _ _ _ _ _ _ (T1.setTop (mkF m 11 #[.val (.ref a1), .val (.int p1), .val (.long q1), .second] [(.int p1), (.ref a1)]))
  refine ogo (fun t k => XS.iconst X1.here hx rfl (hb hby d1_11) k) ?_
  show OwnEnds _ _ _ _ _ _ _ (T1.setTop (mkF m 12 #[.val (.ref a1), .val (.int p1), .val (.long q1), .second] [(.int (1 : Int32)), (.int p1), (.ref a1)]))
  refine ogo (fun t k => XS.iadd X1.here hx rfl (hb hby d1_12) rfl k) ?_
  show OwnEnds _ _ _ _ _ _ _ (T1.setTop (mkF m 13 #[.val (.ref a1), .val (.int p1), .val (.long q1), .second] [(.int (p1 + (1 : Int32))), (.ref a1)]))
  refine ogo (fun t k => XS.lloadN X1.here hx rfl (hb hby d1_13) rfl k) ?_
  show OwnEnds _ _ _ _ _ _ _ (T1.setTop (mkF m 14 #[.val (.ref a1), .val (.int p1), .val (.long q1), .second] [(.long q1), (.int (p1 + (1 : Int32))), (.ref a1)]))
  refine ogo (fun t k => XS.bipush X1.here hx rfl (hb hby d1_14) k) ?_
  show OwnEnds _ _ _ _ _ _ _ (T1.setTop (mkF m 16 #[.val (.ref a1), .val (.int p1), .val (.long q1), .second] [(.int (48 : Int32)), (.long q1), (.int (p1 + (1 : Int32))), (.ref a1)]))
  refine ogo (fun t k => XS.lushr X1.here hx rfl (hb hby d1_16) rfl k) ?_
  show OwnEnds _ _ _ _ _ _ _ (T1.setTop (mkF m 17 #[.val (.ref a1), .val (.int p1), .val (.long q1), .second] [(.long ((q1.toUInt64 >>> ((48 : Int32) &&& 0x3f).toInt64.toUInt64).toInt64)), (.int (p1 + (1 : Int32))), (.ref a1)]))
  refine ogo (fun t k => XS.l2i X1.here hx rfl (hb hby d1_17) rfl k) ?_
  show OwnEnds _ _ _ _ _ _ _ (T1.setTop (mkF m 18 #[.val (.ref a1), .val (.int p1), .val (.long q1), .second] [(.int (((q1.toUInt64 >>> ((48 : Int32) &&& 0x3f).toInt64.toUInt64).toInt64).toInt32)), (.int (p1 + (1 : Int32))), (.ref a1)]))
  refine ogo (fun t k => XS.i2b X1.here hx rfl (hb hby d1_18) rfl k) ?_
  show OwnEnds _ _ _ _ _ _ _ (T1.setTop (mkF m 19 #[.val (.ref a1), .val (.int p1), .val (.long q1), .second] [(.int ((((q1.toUInt64 >>> ((48 : Int32) &&& 0x3f).toInt64.toUInt64).toInt64).toInt32).toInt8.toInt32)), (.int (p1 + (1 : Int32))), (.ref a1)]))
  obtain ⟨cl3, Ar3, Aq3, As3, An3, Ah3, Ag3⟩ := id V1
  obtain ⟨T3, h3, X3, e3, W3, st3⟩ := stB X1 hx hZ e1 Ar3 (j := (p1 + (1 : Int32))) (inb_of As3 (own_ix ho 1 1 (by decide) (by decide)).1) (g := (mkF m 19 #[.val (.ref a1), .val (.int p1), .val (.long q1), .second] [(.int ((((q1.toUInt64 >>> ((48 : Int32) &&& 0x3f).toInt64.toUInt64).toInt64).toInt32).toInt8.toInt32)), (.int (p1 + (1 : Int32))), (.ref a1)])) rfl rfl (hb hby d1_19)
  rw [own_narb] at W3
  have V3 : Arv Z h3 a1 ak1 .byte (48 : Int32) ((vs1.set (p1.toNatClampNeg + 0) (.int ((((q1.toUInt64 >>> ((56 : Int32) &&& 0x3f).toInt64.toUInt64).toInt64).toInt32).toInt8.toInt32))).set (p1.toNatClampNeg + 1) (.int ((((q1.toUInt64 >>> ((48 : Int32) &&& 0x3f).toInt64.toUInt64).toInt64).toInt32).toInt8.toInt32))) (.int (0 : Int32)) := Arv.set Ar3 Aq3 As3 An3 Ah3 Ag3 (fits_nar_byte _) W3 (p1.toNatClampNeg + 1) (own_ix ho 1 1 (by decide) (by decide)).2 (by (try simp only [List.length_set]); omega)
  have N4 := Fr.snoc X3 N2 g1
  have OLD4 := OLD2.wr W3 g1
  have K4 := K2.wr W3 (Or.inl (List.mem_of_getElem? (i := 0) rfl))
  have Z4 := Nat.le_trans Z2 (Nat.le_of_eq W3.size.symm)
  refine ogo st3 ?_
  show OwnEnds _ _ _ _ _ _ _ (T3.setTop (mkF m 20 #[.val (.ref a1), .val (.int p1), .val (.long q1), .second] []))
  refine ogo (fun t k => XS.aloadN X3.here hx rfl (hb hby d1_20) rfl rfl k) ?_
  show OwnEnds _ _ _ _ _ _ _ (T3.setTop (mkF m 21 #[.val (.ref a1), .val (.int p1), .val (.long q1), .second] [(.ref a1)]))
  refine ogo (fun t k => XS.iloadN X3.here hx rfl (hb hby d1_21) rfl k) ?_
  show OwnEnds _ _ _ _ _ _ _ (T3.setTop (mkF m 22 #[.val (.ref a1), .val (.int p1), .val (.long q1), .second] [(.int p1), (.ref a1)]))
  refine ogo (fun t k => XS.iconst X3.here hx rfl (hb hby d1_22) k) ?_
  show OwnEnds _ _ _ _ _ _ _ (T3.setTop (mkF m 23 #[.val (.ref a1), .val (.int p1), .val (.long q1), .second] [(.int (2 : Int32)), (.int p1), (.ref a1)]))
  refine ogo (fun t k => XS.iadd X3.here hx rfl (hb hby d1_23) rfl k) ?_
  show OwnEnds _ _ _ _ _ _ _ (T3.setTop (mkF m 24 #[.val (.ref a1), .val (.int p1), .val (.long q1), .second] [(.int (p1 + (2 : Int32))), (.ref a1)]))
  refine ogo (fun t k => XS.lloadN X3.here hx rfl (hb hby d1_24) rfl k) ?_
  show OwnEnds _ _ _ _ _ _ _ (T3.setTop (mkF m 25 #[.val (.ref a1), .val (.int p1), .val (.long q1), .second] [(.long q1), (.int (p1 + (2 : Int32))), (.ref a1)]))
  refine ogo (fun t k => XS.bipush X3.here hx rfl (hb hby d1_25) k) ?_
  show OwnEnds _ _ _ _ _ _ _ (T3.setTop (mkF m 27 #[.val (.ref a1), .val (.int p1), .val (.long q1), .second] [(.int (40 : Int32)), (.long q1), (.int (p1 + (2 : Int32))), (.ref a1)]))
  refine ogo (fun t k => XS.lushr X3.here hx rfl (hb hby d1_27) rfl k) ?_
  show OwnEnds _ _ _ _ _ _ _ (T3.setTop (mkF m 28 #[.val (.ref a1), .val (.int p1), .val (.long q1), .second] [(.long ((q1.toUInt64 >>> ((40 : Int32) &&& 0x3f).toInt64.toUInt64).toInt64)), (.int (p1 + (2 : Int32))), (.ref a1)]))
  refine ogo (fun t k => XS.l2i X3.here hx rfl (hb hby d1_28) rfl k) ?_
  show OwnEnds _ _ _ _ _ _ _ (T3.setTop (mkF m 29 #[.val (.ref a1), .val (.int p1), .val (.long q1), .second] [(.int (((q1.toUInt64 >>> ((40 : Int32) &&& 0x3f).toInt64.toUInt64).toInt64).toInt32)), (.int (p1 + (2 : Int32))), (.ref a1)]))
  refine ogo (fun t k => XS.i2b X3.here hx rfl (hb hby d1_29) rfl k) ?_
  show OwnEnds _ _ _ _ _ _ _ (T3.setTop (mkF m 30 #[.val (.ref a1), .val (.int p1), .val (.long q1), .second] [(.int ((((q1.toUInt64 >>> ((40 : Int32) &&& 0x3f).toInt64.toUInt64).toInt64).toInt32).toInt8.toInt32)), (.int (p1 + (2 : Int32))), (.ref a1)]))
  obtain ⟨cl5, Ar5, Aq5, As5, An5, Ah5, Ag5⟩ := id V3
  obtain ⟨T5, h5, X5, e5, W5, st5⟩ := stB X3 hx hZ e3 Ar5 (j := (p1 + (2 : Int32))) (inb_of As5 (own_ix ho 2 2 (by decide) (by decide)).1) (g := (mkF m 30 #[.val (.ref a1), .val (.int p1), .val (.long q1), .second] [(.int ((((q1.toUInt64 >>> ((40 : Int32) &&& 0x3f).toInt64.toUInt64).toInt64).toInt32).toInt8.toInt32)), (.int (p1 + (2 : Int32))), (.ref a1)])) rfl rfl (hb hby d1_30)
  rw [own_narb] at W5
  have V5 : Arv Z h5 a1 ak1 .byte (48 : Int32) (((vs1.set (p1.toNatClampNeg + 0) (.int ((((q1.toUInt64 >>> ((56 : Int32) &&& 0x3f).toInt64.toUInt64).toInt64).toInt32).toInt8.toInt32))).set (p1.toNatClampNeg + 1) (.int ((((q1.toUInt64 >>> ((48 : Int32) &&& 0x3f).toInt64.toUInt64).toInt64).toInt32).toInt8.toInt32))).set (p1.toNatClampNeg + 2) (.int ((((q1.toUInt64 >>> ((40 : Int32) &&& 0x3f).toInt64.toUInt64).toInt64).toInt32).toInt8.toInt32))) (.int (0 : Int32)) := Arv.set Ar5 Aq5 As5 An5 Ah5 Ag5 (fits_nar_byte _) W5 (p1.toNatClampNeg + 2) (own_ix ho 2 2 (by decide) (by decide)).2 (by (try simp only [List.length_set]); omega)
  have N6 := Fr.snoc X5 N4 g1
  have OLD6 := OLD4.wr W5 g1
  have K6 := K4.wr W5 (Or.inl (List.mem_of_getElem? (i := 0) rfl))
  have Z6 := Nat.le_trans Z4 (Nat.le_of_eq W5.size.symm)
  refine ogo st5 ?_
  show OwnEnds _ _ _ _ _ _ _ (T5.setTop (mkF m 31 #[.val (.ref a1), .val (.int p1), .val (.long q1), .second] []))
  refine ogo (fun t k => XS.aloadN X5.here hx rfl (hb hby d1_31) rfl rfl k) ?_
  show OwnEnds _ _ _ _ _ _ _ (T5.setTop (mkF m 32 #[.val (.ref a1), .val (.int p1), .val (.long q1), .second] [(.ref a1)]))
  refine ogo (fun t k => XS.iloadN X5.here hx rfl (hb hby d1_32) rfl k) ?_
  show OwnEnds _ _ _ _ _ _ _ (T5.setTop (mkF m 33 #[.val (.ref a1), .val (.int p1), .val (.long q1), .second] [(.int p1), (.ref a1)]))
  refine ogo (fun t k => XS.iconst X5.here hx rfl (hb hby d1_33) k) ?_
  show OwnEnds _ _ _ _ _ _ _ (T5.setTop (mkF m 34 #[.val (.ref a1), .val (.int p1), .val (.long q1), .second] [(.int (3 : Int32)), (.int p1), (.ref a1)]))
  refine ogo (fun t k => XS.iadd X5.here hx rfl (hb hby d1_34) rfl k) ?_
  show OwnEnds _ _ _ _ _ _ _ (T5.setTop (mkF m 35 #[.val (.ref a1), .val (.int p1), .val (.long q1), .second] [(.int (p1 + (3 : Int32))), (.ref a1)]))
  refine ogo (fun t k => XS.lloadN X5.here hx rfl (hb hby d1_35) rfl k) ?_
  show OwnEnds _ _ _ _ _ _ _ (T5.setTop (mkF m 36 #[.val (.ref a1), .val (.int p1), .val (.long q1), .second] [(.long q1), (.int (p1 + (3 : Int32))), (.ref a1)]))
  refine ogo (fun t k => XS.bipush X5.here hx rfl (hb hby d1_36) k) ?_
  show OwnEnds _ _ _ _ _ _ _ (T5.setTop (mkF m 38 #[.val (.ref a1), .val (.int p1), .val (.long q1), .second] [(.int (32 : Int32)), (.long q1), (.int (p1 + (3 : Int32))), (.ref a1)]))
  refine ogo (fun t k => XS.lushr X5.here hx rfl (hb hby d1_38) rfl k) ?_
  show OwnEnds _ _ _ _ _ _ _ (T5.setTop (mkF m 39 #[.val (.ref a1), .val (.int p1), .val (.long q1), .second] [(.long ((q1.toUInt64 >>> ((32 : Int32) &&& 0x3f).toInt64.toUInt64).toInt64)), (.int (p1 + (3 : Int32))), (.ref a1)]))
  refine ogo (fun t k => XS.l2i X5.here hx rfl (hb hby d1_39) rfl k) ?_
  show OwnEnds _ _ _ _ _ _ _ (T5.setTop (mkF m 40 #[.val (.ref a1), .val (.int p1), .val (.long q1), .second] [(.int (((q1.toUInt64 >>> ((32 : Int32) &&& 0x3f).toInt64.toUInt64).toInt64).toInt32)), (.int (p1 + (3 : Int32))), (.ref a1)]))
  refine ogo (fun t k => XS.i2b X5.here hx rfl (hb hby d1_40) rfl k) ?_
  show OwnEnds _ _ _ _ _ _ _ (T5.setTop (mkF m 41 #[.val (.ref a1), .val (.int p1), .val (.long q1), .second] [(.int ((((q1.toUInt64 >>> ((32 : Int32) &&& 0x3f).toInt64.toUInt64).toInt64).toInt32).toInt8.toInt32)), (.int (p1 + (3 : Int32))), (.ref a1)]))
  obtain ⟨cl7, Ar7, Aq7, As7, An7, Ah7, Ag7⟩ := id V5
  obtain ⟨T7, h7, X7, e7, W7, st7⟩ := stB X5 hx hZ e5 Ar7 (j := (p1 + (3 : Int32))) (inb_of As7 (own_ix ho 3 3 (by decide) (by decide)).1) (g := (mkF m 41 #[.val (.ref a1), .val (.int p1), .val (.long q1), .second] [(.int ((((q1.toUInt64 >>> ((32 : Int32) &&& 0x3f).toInt64.toUInt64).toInt64).toInt32).toInt8.toInt32)), (.int (p1 + (3 : Int32))), (.ref a1)])) rfl rfl (hb hby d1_41)
  rw [own_narb] at W7
  have V7 : Arv Z h7 a1 ak1 .byte (48 : Int32) ((((vs1.set (p1.toNatClampNeg + 0) (.int ((((q1.toUInt64 >>> ((56 : Int32) &&& 0x3f).toInt64.toUInt64).toInt64).toInt32).toInt8.toInt32))).set (p1.toNatClampNeg + 1) (.int ((((q1.toUInt64 >>> ((48 : Int32) &&& 0x3f).toInt64.toUInt64).toInt64).toInt32).toInt8.toInt32))).set (p1.toNatClampNeg + 2) (.int ((((q1.toUInt64 >>> ((40 : Int32) &&& 0x3f).toInt64.toUInt64).toInt64).toInt32).toInt8.toInt32))).set (p1.toNatClampNeg + 3) (.int ((((q1.toUInt64 >>> ((32 : Int32) &&& 0x3f).toInt64.toUInt64).toInt64).toInt32).toInt8.toInt32))) (.int (0 : Int32)) := Arv.set Ar7 Aq7 As7 An7 Ah7 Ag7 (fits_nar_byte _) W7 (p1.toNatClampNeg + 3) (own_ix ho 3 3 (by decide) (by decide)).2 (by (try simp only [List.length_set]); omega)
  have N8 := Fr.snoc X7 N6 g1
  have OLD8 := OLD6.wr W7 g1
  have K8 := K6.wr W7 (Or.inl (List.mem_of_getElem? (i := 0) rfl))
  have Z8 := Nat.le_trans Z6 (Nat.le_of_eq W7.size.symm)
  refine ogo st7 ?_
  show OwnEnds _ _ _ _ _ _ _ (T7.setTop (mkF m 42 #[.val (.ref a1), .val (.int p1), .val (.long q1), .second] []))
  refine ogo (fun t k => XS.aloadN X7.here hx rfl (hb hby d1_42) rfl rfl k) ?_
  show OwnEnds _ _ _ _ _ _ _ (T7.setTop (mkF m 43 #[.val (.ref a1), .val (.int p1), .val (.long q1), .second] [(.ref a1)]))
  refine ogo (fun t k => XS.iloadN X7.here hx rfl (hb hby d1_43) rfl k) ?_
  show OwnEnds _ _ _ _ _ _ _ (T7.setTop (mkF m 44 #[.val (.ref a1), .val (.int p1), .val (.long q1), .second] [(.int p1), (.ref a1)]))
  refine ogo (fun t k => XS.iconst X7.here hx rfl (hb hby d1_44) k) ?_
  show OwnEnds _ _ _ _ _ _ _ (T7.setTop (mkF m 45 #[.val (.ref a1), .val (.int p1), .val (.long q1), .second] [(.int (4 : Int32)), (.int p1), (.ref a1)]))
  refine ogo (fun t k => XS.iadd X7.here hx rfl (hb hby d1_45) rfl k) ?_
  show OwnEnds _ _ _ _ _ _ _ (T7.setTop (mkF m 46 #[.val (.ref a1), .val (.int p1), .val (.long q1), .second] [(.int (p1 + (4 : Int32))), (.ref a1)]))
  refine ogo (fun t k => XS.lloadN X7.here hx rfl (hb hby d1_46) rfl k) ?_
  show OwnEnds _ _ _ _ _ _ _ (T7.setTop (mkF m 47 #[.val (.ref a1), .val (.int p1), .val (.long q1), .second] [(.long q1), (.int (p1 + (4 : Int32))), (.ref a1)]))
  refine ogo (fun t k => XS.bipush X7.here hx rfl (hb hby d1_47) k) ?_
  show OwnEnds _ _ _ _ _ _ _ (T7.setTop (mkF m 49 #[.val (.ref a1), .val (.int p1), .val (.long q1), .second] [(.int (24 : Int32)), (.long q1), (.int (p1 + (4 : Int32))), (.ref a1)]))
  refine ogo (fun t k => XS.lushr X7.here hx rfl (hb hby d1_49) rfl k) ?_
  show OwnEnds _ _ _ _ _ _ _ (T7.setTop (mkF m 50 #[.val (.ref a1), .val (.int p1), .val (.long q1), .second] [(.long ((q1.toUInt64 >>> ((24 : Int32) &&& 0x3f).toInt64.toUInt64).toInt64)), (.int (p1 + (4 : Int32))), (.ref a1)]))
  refine ogo (fun t k => XS.l2i X7.here hx rfl (hb hby d1_50) rfl k) ?_
  show OwnEnds _ _ _ _ _ _ _ (T7.setTop (mkF m 51 #[.val (.ref a1), .val (.int p1), .val (.long q1), .second] [(.int (((q1.toUInt64 >>> ((24 : Int32) &&& 0x3f).toInt64.toUInt64).toInt64).toInt32)), (.int (p1 + (4 : Int32))), (.ref a1)]))
  refine ogo (fun t k => XS.i2b X7.here hx rfl (hb hby d1_51) rfl k) ?_
  show OwnEnds _ _ _ _ _ _ _ (T7.setTop (mkF m 52 #[.val (.ref a1), .val (.int p1), .val (.long q1), .second] [(.int ((((q1.toUInt64 >>> ((24 : Int32) &&& 0x3f).toInt64.toUInt64).toInt64).toInt32).toInt8.toInt32)), (.int (p1 + (4 : Int32))), (.ref a1)]))
  obtain ⟨cl9, Ar9, Aq9, As9, An9, Ah9, Ag9⟩ := id V7
  obtain ⟨T9, h9, X9, e9, W9, st9⟩ := stB X7 hx hZ e7 Ar9 (j := (p1 + (4 : Int32))) (inb_of As9 (own_ix ho 4 4 (by decide) (by decide)).1) (g := (mkF m 52 #[.val (.ref a1), .val (.int p1), .val (.long q1), .second] [(.int ((((q1.toUInt64 >>> ((24 : Int32) &&& 0x3f).toInt64.toUInt64).toInt64).toInt32).toInt8.toInt32)), (.int (p1 + (4 : Int32))), (.ref a1)])) rfl rfl (hb hby d1_52)
  rw [own_narb] at W9
  have V9 : Arv Z h9 a1 ak1 .byte (48 : Int32) (((((vs1.set (p1.toNatClampNeg + 0) (.int ((((q1.toUInt64 >>> ((56 : Int32) &&& 0x3f).toInt64.toUInt64).toInt64).toInt32).toInt8.toInt32))).set (p1.toNatClampNeg + 1) (.int ((((q1.toUInt64 >>> ((48 : Int32) &&& 0x3f).toInt64.toUInt64).toInt64).toInt32).toInt8.toInt32))).set (p1.toNatClampNeg + 2) (.int ((((q1.toUInt64 >>> ((40 : Int32) &&& 0x3f).toInt64.toUInt64).toInt64).toInt32).toInt8.toInt32))).set (p1.toNatClampNeg + 3) (.int ((((q1.toUInt64 >>> ((32 : Int32) &&& 0x3f).toInt64.toUInt64).toInt64).toInt32).toInt8.toInt32))).set (p1.toNatClampNeg + 4) (.int ((((q1.toUInt64 >>> ((24 : Int32) &&& 0x3f).toInt64.toUInt64).toInt64).toInt32).toInt8.toInt32))) (.int (0 : Int32)) := Arv.set Ar9 Aq9 As9 An9 Ah9 Ag9 (fits_nar_byte _) W9 (p1.toNatClampNeg + 4) (own_ix ho 4 4 (by decide) (by decide)).2 (by (try simp only [List.length_set]); omega)
  have N10 := Fr.snoc X9 N8 g1
  have OLD10 := OLD8.wr W9 g1
  have K10 := K8.wr W9 (Or.inl (List.mem_of_getElem? (i := 0) rfl))
  have Z10 := Nat.le_trans Z8 (Nat.le_of_eq W9.size.symm)
  refine ogo st9 ?_
  show OwnEnds _ _ _ _ _ _ _ (T9.setTop (mkF m 53 #[.val (.ref a1), .val (.int p1), .val (.long q1), .second] []))
  refine ogo (fun t k => XS.aloadN X9.here hx rfl (hb hby d1_53) rfl rfl k) ?_
  show OwnEnds _ _ _ _ _ _ _ (T9.setTop (mkF m 54 #[.val (.ref a1), .val (.int p1), .val (.long q1), .second] [(.ref a1)]))
  refine ogo (fun t k => XS.iloadN X9.here hx rfl (hb hby d1_54) rfl k) ?_
  show OwnEnds _ _ _ _ _ _ _ (T9.setTop (mkF m 55 #[.val (.ref a1), .val (.int p1), .val (.long q1), .second] [(.int p1), (.ref a1)]))
  refine ogo (fun t k => XS.iconst X9.here hx rfl (hb hby d1_55) k) ?_
  show OwnEnds _ _ _ _ _ _ _ (T9.setTop (mkF m 56 #[.val (.ref a1), .val (.int p1), .val (.long q1), .second] [(.int (5 : Int32)), (.int p1), (.ref a1)]))
  refine ogo (fun t k => XS.iadd X9.here hx rfl (hb hby d1_56) rfl k) ?_
  show OwnEnds _ _ _ _ _ _ _ (T9.setTop (mkF m 57 #[.val (.ref a1), .val (.int p1), .val (.long q1), .second] [(.int (p1 + (5 : Int32))), (.ref a1)]))
  refine ogo (fun t k => XS.lloadN X9.here hx rfl (hb hby d1_57) rfl k) ?_
  show OwnEnds _ _ _ _ _ _ _ (T9.setTop (mkF m 58 #[.val (.ref a1), .val (.int p1), .val (.long q1), .second] [(.long q1), (.int (p1 + (5 : Int32))), (.ref a1)]))
  refine ogo (fun t k => XS.bipush X9.here hx rfl (hb hby d1_58) k) ?_
  show OwnEnds _ _ _ _ _ _ _ (T9.setTop (mkF m 60 #[.val (.ref a1), .val (.int p1), .val (.long q1), .second] [(.int (16 : Int32)), (.long q1), (.int (p1 + (5 : Int32))), (.ref a1)]))
  refine ogo (fun t k => XS.lushr X9.here hx rfl (hb hby d1_60) rfl k) ?_
  show OwnEnds _ _ _ _ _ _ _ (T9.setTop (mkF m 61 #[.val (.ref a1), .val (.int p1), .val (.long q1), .second] [(.long ((q1.toUInt64 >>> ((16 : Int32) &&& 0x3f).toInt64.toUInt64).toInt64)), (.int (p1 + (5 : Int32))), (.ref a1)]))
  refine ogo (fun t k => XS.l2i X9.here hx rfl (hb hby d1_61) rfl k) ?_
  show OwnEnds _ _ _ _ _ _ _ (T9.setTop (mkF m 62 #[.val (.ref a1), .val (.int p1), .val (.long q1), .second] [(.int (((q1.toUInt64 >>> ((16 : Int32) &&& 0x3f).toInt64.toUInt64).toInt64).toInt32)), (.int (p1 + (5 : Int32))), (.ref a1)]))
  refine ogo (fun t k => XS.i2b X9.here hx rfl (hb hby d1_62) rfl k) ?_
  show OwnEnds _ _ _ _ _ _ _ (T9.setTop (mkF m 63 #[.val (.ref a1), .val (.int p1), .val (.long q1), .second] [(.int ((((q1.toUInt64 >>> ((16 : Int32) &&& 0x3f).toInt64.toUInt64).toInt64).toInt32).toInt8.toInt32)), (.int (p1 + (5 : Int32))), (.ref a1)]))
  obtain ⟨cl11, Ar11, Aq11, As11, An11, Ah11, Ag11⟩ := id V9
  obtain ⟨T11, h11, X11, e11, W11, st11⟩ := stB X9 hx hZ e9 Ar11 (j := (p1 + (5 : Int32))) (inb_of As11 (own_ix ho 5 5 (by decide) (by decide)).1) (g := (mkF m 63 #[.val (.ref a1), .val (.int p1), .val (.long q1), .second] [(.int ((((q1.toUInt64 >>> ((16 : Int32) &&& 0x3f).toInt64.toUInt64).toInt64).toInt32).toInt8.toInt32)), (.int (p1 + (5 : Int32))), (.ref a1)])) rfl rfl (hb hby d1_63)
  rw [own_narb] at W11
  have V11 : Arv Z h11 a1 ak1 .byte (48 : Int32) ((((((vs1.set (p1.toNatClampNeg + 0) (.int ((((q1.toUInt64 >>> ((56 : Int32) &&& 0x3f).toInt64.toUInt64).toInt64).toInt32).toInt8.toInt32))).set (p1.toNatClampNeg + 1) (.int ((((q1.toUInt64 >>> ((48 : Int32) &&& 0x3f).toInt64.toUInt64).toInt64).toInt32).toInt8.toInt32))).set (p1.toNatClampNeg + 2) (.int ((((q1.toUInt64 >>> ((40 : Int32) &&& 0x3f).toInt64.toUInt64).toInt64).toInt32).toInt8.toInt32))).set (p1.toNatClampNeg + 3) (.int ((((q1.toUInt64 >>> ((32 : Int32) &&& 0x3f).toInt64.toUInt64).toInt64).toInt32).toInt8.toInt32))).set (p1.toNatClampNeg + 4) (.int ((((q1.toUInt64 >>> ((24 : Int32) &&& 0x3f).toInt64.toUInt64).toInt64).toInt32).toInt8.toInt32))).set (p1.toNatClampNeg + 5) (.int ((((q1.toUInt64 >>> ((16 : Int32) &&& 0x3f).toInt64.toUInt64).toInt64).toInt32).toInt8.toInt32))) (.int (0 : Int32)) := Arv.set Ar11 Aq11 As11 An11 Ah11 Ag11 (fits_nar_byte _) W11 (p1.toNatClampNeg + 5) (own_ix ho 5 5 (by decide) (by decide)).2 (by (try simp only [List.length_set]); omega)
  have N12 := Fr.snoc X11 N10 g1
  have OLD12 := OLD10.wr W11 g1
  have K12 := K10.wr W11 (Or.inl (List.mem_of_getElem? (i := 0) rfl))
  have Z12 := Nat.le_trans Z10 (Nat.le_of_eq W11.size.symm)
  refine ogo st11 ?_
  show OwnEnds _ _ _ _ _ _ _ (T11.setTop (mkF m 64 #[.val (.ref a1), .val (.int p1), .val (.long q1), .second] []))
  refine ogo (fun t k => XS.aloadN X11.here hx rfl (hb hby d1_64) rfl rfl k) ?_
  show OwnEnds _ _ _ _ _ _ _ (T11.setTop (mkF m 65 #[.val (.ref a1), .val (.int p1), .val (.long q1), .second] [(.ref a1)]))
  refine ogo (fun t k => XS.iloadN X11.here hx rfl (hb hby d1_65) rfl k) ?_
  show OwnEnds _ _ _ _ _ _ _ (T11.setTop (mkF m 66 #[.val (.ref a1), .val (.int p1), .val (.long q1), .second] [(.int p1), (.ref a1)]))
  refine ogo (fun t k => XS.bipush X11.here hx rfl (hb hby d1_66) k) ?_
  show OwnEnds _ _ _ _ _ _ _ (T11.setTop (mkF m 68 #[.val (.ref a1), .val (.int p1), .val (.long q1), .second] [(.int (6 : Int32)), (.int p1), (.ref a1)]))
  refine ogo (fun t k => XS.iadd X11.here hx rfl (hb hby d1_68) rfl k) ?_
  show OwnEnds _ _ _ _ _ _ _ (T11.setTop (mkF m 69 #[.val (.ref a1), .val (.int p1), .val (.long q1), .second] [(.int (p1 + (6 : Int32))), (.ref a1)]))
  refine ogo (fun t k => XS.lloadN X11.here hx rfl (hb hby d1_69) rfl k) ?_
  show OwnEnds _ _ _ _ _ _ _ (T11.setTop (mkF m 70 #[.val (.ref a1), .val (.int p1), .val (.long q1), .second] [(.long q1), (.int (p1 + (6 : Int32))), (.ref a1)]))
  refine ogo (fun t k => XS.bipush X11.here hx rfl (hb hby d1_70) k) ?_
  show OwnEnds _ _ _ _ _ _ _ (T11.setTop (mkF m 72 #[.val (.ref a1), .val (.int p1), .val (.long q1), .second] [(.int (8 : Int32)), (.long q1), (.int (p1 + (6 : Int32))), (.ref a1)]))
  refine ogo (fun t k => XS.lushr X11.here hx rfl (hb hby d1_72) rfl k) ?_
  show OwnEnds _ _ _ _ _ _ _ (T11.setTop (mkF m 73 #[.val (.ref a1), .val (.int p1), .val (.long q1), .second] [(.long ((q1.toUInt64 >>> ((8 : Int32) &&& 0x3f).toInt64.toUInt64).toInt64)), (.int (p1 + (6 : Int32))), (.ref a1)]))
  refine ogo (fun t k => XS.l2i X11.here hx rfl (hb hby d1_73) rfl k) ?_
  show OwnEnds _ _ _ _ _ _ _ (T11.setTop (mkF m 74 #[.val (.ref a1), .val (.int p1), .val (.long q1), .second] [(.int (((q1.toUInt64 >>> ((8 : Int32) &&& 0x3f).toInt64.toUInt64).toInt64).toInt32)), (.int (p1 + (6 : Int32))), (.ref a1)]))
  refine ogo (fun t k => XS.i2b X11.here hx rfl (hb hby d1_74) rfl k) ?_
  show OwnEnds _ _ _ _ _ _ _ (T11.setTop (mkF m 75 #[.val (.ref a1), .val (.int p1), .val (.long q1), .second] [(.int ((((q1.toUInt64 >>> ((8 : Int32) &&& 0x3f).toInt64.toUInt64).toInt64).toInt32).toInt8.toInt32)), (.int (p1 + (6 : Int32))), (.ref a1)]))
  obtain ⟨cl13, Ar13, Aq13, As13, An13, Ah13, Ag13⟩ := id V11
  obtain ⟨T13, h13, X13, e13, W13, st13⟩ := stB X11 hx hZ e11 Ar13 (j := (p1 + (6 : Int32))) (inb_of As13 (own_ix ho 6 6 (by decide) (by decide)).1) (g := (mkF m 75 #[.val (.ref a1), .val (.int p1), .val (.long q1), .second] [(.int ((((q1.toUInt64 >>> ((8 : Int32) &&& 0x3f).toInt64.toUInt64).toInt64).toInt32).toInt8.toInt32)), (.int (p1 + (6 : Int32))), (.ref a1)])) rfl rfl (hb hby d1_75)
  rw [own_narb] at W13
  have V13 : Arv Z h13 a1 ak1 .byte (48 : Int32) (((((((vs1.set (p1.toNatClampNeg + 0) (.int ((((q1.toUInt64 >>> ((56 : Int32) &&& 0x3f).toInt64.toUInt64).toInt64).toInt32).toInt8.toInt32))).set (p1.toNatClampNeg + 1) (.int ((((q1.toUInt64 >>> ((48 : Int32) &&& 0x3f).toInt64.toUInt64).toInt64).toInt32).toInt8.toInt32))).set (p1.toNatClampNeg + 2) (.int ((((q1.toUInt64 >>> ((40 : Int32) &&& 0x3f).toInt64.toUInt64).toInt64).toInt32).toInt8.toInt32))).set (p1.toNatClampNeg + 3) (.int ((((q1.toUInt64 >>> ((32 : Int32) &&& 0x3f).toInt64.toUInt64).toInt64).toInt32).toInt8.toInt32))).set (p1.toNatClampNeg + 4) (.int ((((q1.toUInt64 >>> ((24 : Int32) &&& 0x3f).toInt64.toUInt64).toInt64).toInt32).toInt8.toInt32))).set (p1.toNatClampNeg + 5) (.int ((((q1.toUInt64 >>> ((16 : Int32) &&& 0x3f).toInt64.toUInt64).toInt64).toInt32).toInt8.toInt32))).set (p1.toNatClampNeg + 6) (.int ((((q1.toUInt64 >>> ((8 : Int32) &&& 0x3f).toInt64.toUInt64).toInt64).toInt32).toInt8.toInt32))) (.int (0 : Int32)) := Arv.set Ar13 Aq13 As13 An13 Ah13 Ag13 (fits_nar_byte _) W13 (p1.toNatClampNeg + 6) (own_ix ho 6 6 (by decide) (by decide)).2 (by (try simp only [List.length_set]); omega)
  have N14 := Fr.snoc X13 N12 g1
  have OLD14 := OLD12.wr W13 g1
  have K14 := K12.wr W13 (Or.inl (List.mem_of_getElem? (i := 0) rfl))
  have Z14 := Nat.le_trans Z12 (Nat.le_of_eq W13.size.symm)
  refine ogo st13 ?_
  show OwnEnds _ _ _ _ _ _ _ (T13.setTop (mkF m 76 #[.val (.ref a1), .val (.int p1), .val (.long q1), .second] []))
  refine ogo (fun t k => XS.aloadN X13.here hx rfl (hb hby d1_76) rfl rfl k) ?_
  show OwnEnds _ _ _ _ _ _ _ (T13.setTop (mkF m 77 #[.val (.ref a1), .val (.int p1), .val (.long q1), .second] [(.ref a1)]))
  refine ogo (fun t k => XS.iloadN X13.here hx rfl (hb hby d1_77) rfl k) ?_
  show OwnEnds _ _ _ _ _ _ _ (T13.setTop (mkF m 78 #[.val (.ref a1), .val (.int p1), .val (.long q1), .second] [(.int p1), (.ref a1)]))
  refine ogo (fun t k => XS.bipush X13.here hx rfl (hb hby d1_78) k) ?_
  show OwnEnds _ _ _ _ _ _ _ (T13.setTop (mkF m 80 #[.val (.ref a1), .val (.int p1), .val (.long q1), .second] [(.int (7 : Int32)), (.int p1), (.ref a1)]))
  refine ogo (fun t k => XS.iadd X13.here hx rfl (hb hby d1_80) rfl k) ?_
  show OwnEnds _ _ _ _ _ _ _ (T13.setTop (mkF m 81 #[.val (.ref a1), .val (.int p1), .val (.long q1), .second] [(.int (p1 + (7 : Int32))), (.ref a1)]))
  refine ogo (fun t k => XS.lloadN X13.here hx rfl (hb hby d1_81) rfl k) ?_
  show OwnEnds _ _ _ _ _ _ _ (T13.setTop (mkF m 82 #[.val (.ref a1), .val (.int p1), .val (.long q1), .second] [(.long q1), (.int (p1 + (7 : Int32))), (.ref a1)]))
  refine ogo (fun t k => XS.l2i X13.here hx rfl (hb hby d1_82) rfl k) ?_
  show OwnEnds _ _ _ _ _ _ _ (T13.setTop (mkF m 83 #[.val (.ref a1), .val (.int p1), .val (.long q1), .second] [(.int (q1.toInt32)), (.int (p1 + (7 : Int32))), (.ref a1)]))
  refine ogo (fun t k => XS.i2b X13.here hx rfl (hb hby d1_83) rfl k) ?_
  show OwnEnds _ _ _ _ _ _ _ (T13.setTop (mkF m 84 #[.val (.ref a1), .val (.int p1), .val (.long q1), .second] [(.int ((q1.toInt32).toInt8.toInt32)), (.int (p1 + (7 : Int32))), (.ref a1)]))
  obtain ⟨cl15, Ar15, Aq15, As15, An15, Ah15, Ag15⟩ := id V13
  obtain ⟨T15, h15, X15, e15, W15, st15⟩ := stB X13 hx hZ e13 Ar15 (j := (p1 + (7 : Int32))) (inb_of As15 (own_ix ho 7 7 (by decide) (by decide)).1) (g := (mkF m 84 #[.val (.ref a1), .val (.int p1), .val (.long q1), .second] [(.int ((q1.toInt32).toInt8.toInt32)), (.int (p1 + (7 : Int32))), (.ref a1)])) rfl rfl (hb hby d1_84)
  rw [own_narb] at W15
  have V15 : Arv Z h15 a1 ak1 .byte (48 : Int32) ((((((((vs1.set (p1.toNatClampNeg + 0) (.int ((((q1.toUInt64 >>> ((56 : Int32) &&& 0x3f).toInt64.toUInt64).toInt64).toInt32).toInt8.toInt32))).set (p1.toNatClampNeg + 1) (.int ((((q1.toUInt64 >>> ((48 : Int32) &&& 0x3f).toInt64.toUInt64).toInt64).toInt32).toInt8.toInt32))).set (p1.toNatClampNeg + 2) (.int ((((q1.toUInt64 >>> ((40 : Int32) &&& 0x3f).toInt64.toUInt64).toInt64).toInt32).toInt8.toInt32))).set (p1.toNatClampNeg + 3) (.int ((((q1.toUInt64 >>> ((32 : Int32) &&& 0x3f).toInt64.toUInt64).toInt64).toInt32).toInt8.toInt32))).set (p1.toNatClampNeg + 4) (.int ((((q1.toUInt64 >>> ((24 : Int32) &&& 0x3f).toInt64.toUInt64).toInt64).toInt32).toInt8.toInt32))).set (p1.toNatClampNeg + 5) (.int ((((q1.toUInt64 >>> ((16 : Int32) &&& 0x3f).toInt64.toUInt64).toInt64).toInt32).toInt8.toInt32))).set (p1.toNatClampNeg + 6) (.int ((((q1.toUInt64 >>> ((8 : Int32) &&& 0x3f).toInt64.toUInt64).toInt64).toInt32).toInt8.toInt32))).set (p1.toNatClampNeg + 7) (.int ((q1.toInt32).toInt8.toInt32))) (.int (0 : Int32)) := Arv.set Ar15 Aq15 As15 An15 Ah15 Ag15 (fits_nar_byte _) W15 (p1.toNatClampNeg + 7) (own_ix ho 7 7 (by decide) (by decide)).2 (by (try simp only [List.length_set]); omega)
  have N16 := Fr.snoc X15 N14 g1
  have OLD16 := OLD14.wr W15 g1
  have K16 := K14.wr W15 (Or.inl (List.mem_of_getElem? (i := 0) rfl))
  have Z16 := Nat.le_trans Z14 (Nat.le_of_eq W15.size.symm)
  refine ogo st15 ?_
  show OwnEnds _ _ _ _ _ _ _ (T15.setTop (mkF m 85 #[.val (.ref a1), .val (.int p1), .val (.long q1), .second] []))
  refine endV X15 hx hlk hret (hb hby d1_85) (by decide) (by decide) ?_
  show Q1 Z a1 p1 q1 vs1 h0 n0 _ T15.heap _
  rw [e15]
  exact ⟨rfl, N16, K16, ⟨_, V15⟩⟩
theorem d2_0 : decode method_3_code 0 = .ok (.aload_n 0, 1) := by decide +kernel
theorem d2_1 : decode method_3_code 1 = .ok (.iload_n 1, 1) := by decide +kernel
theorem d2_2 : decode method_3_code 2 = .ok (.baload, 1) := by decide +kernel
theorem d2_3 : decode method_3_code 3 = .ok (.sipush 255, 3) := by decide +kernel
theorem d2_6 : decode method_3_code 6 = .ok (.iand, 1) := by decide +kernel
theorem d2_7 : decode method_3_code 7 = .ok (.i2l, 1) := by decide +kernel
theorem d2_8 : decode method_3_code 8 = .ok (.bipush 56, 2) := by decide +kernel
theorem d2_10 : decode method_3_code 10 = .ok (.lshl, 1) := by decide +kernel
theorem d2_11 : decode method_3_code 11 = .ok (.aload_n 0, 1) := by decide +kernel
theorem d2_12 : decode method_3_code 12 = .ok (.iload_n 1, 1) := by decide +kernel
theorem d2_13 : decode method_3_code 13 = .ok (.iconst 1, 1) := by decide +kernel
theorem d2_14 : decode method_3_code 14 = .ok (.iadd, 1) := by decide +kernel
theorem d2_15 : decode method_3_code 15 = .ok (.baload, 1) := by decide +kernel
theorem d2_16 : decode method_3_code 16 = .ok (.sipush 255, 3) := by decide +kernel
theorem d2_19 : decode method_3_code 19 = .ok (.iand, 1) := by decide +kernel
theorem d2_20 : decode method_3_code 20 = .ok (.i2l, 1) := by decide +kernel
theorem d2_21 : decode method_3_code 21 = .ok (.bipush 48, 2) := by decide +kernel
theorem d2_23 : decode method_3_code 23 = .ok (.lshl, 1) := by decide +kernel
theorem d2_24 : decode method_3_code 24 = .ok (.lor, 1) := by decide +kernel
theorem d2_25 : decode method_3_code 25 = .ok (.aload_n 0, 1) := by decide +kernel
theorem d2_26 : decode method_3_code 26 = .ok (.iload_n 1, 1) := by decide +kernel
theorem d2_27 : decode method_3_code 27 = .ok (.iconst 2, 1) := by decide +kernel
theorem d2_28 : decode method_3_code 28 = .ok (.iadd, 1) := by decide +kernel
theorem d2_29 : decode method_3_code 29 = .ok (.baload, 1) := by decide +kernel
theorem d2_30 : decode method_3_code 30 = .ok (.sipush 255, 3) := by decide +kernel
theorem d2_33 : decode method_3_code 33 = .ok (.iand, 1) := by decide +kernel
theorem d2_34 : decode method_3_code 34 = .ok (.i2l, 1) := by decide +kernel
theorem d2_35 : decode method_3_code 35 = .ok (.bipush 40, 2) := by decide +kernel
theorem d2_37 : decode method_3_code 37 = .ok (.lshl, 1) := by decide +kernel
theorem d2_38 : decode method_3_code 38 = .ok (.lor, 1) := by decide +kernel
theorem d2_39 : decode method_3_code 39 = .ok (.aload_n 0, 1) := by decide +kernel
theorem d2_40 : decode method_3_code 40 = .ok (.iload_n 1, 1) := by decide +kernel
theorem d2_41 : decode method_3_code 41 = .ok (.iconst 3, 1) := by decide +kernel
theorem d2_42 : decode method_3_code 42 = .ok (.iadd, 1) := by decide +kernel
theorem d2_43 : decode method_3_code 43 = .ok (.baload, 1) := by decide +kernel
theorem d2_44 : decode method_3_code 44 = .ok (.sipush 255, 3) := by decide +kernel
theorem d2_47 : decode method_3_code 47 = .ok (.iand, 1) := by decide +kernel
theorem d2_48 : decode method_3_code 48 = .ok (.i2l, 1) := by decide +kernel
theorem d2_49 : decode method_3_code 49 = .ok (.bipush 32, 2) := by decide +kernel
theorem d2_51 : decode method_3_code 51 = .ok (.lshl, 1) := by decide +kernel
theorem d2_52 : decode method_3_code 52 = .ok (.lor, 1) := by decide +kernel
theorem d2_53 : decode method_3_code 53 = .ok (.aload_n 0, 1) := by decide +kernel
theorem d2_54 : decode method_3_code 54 = .ok (.iload_n 1, 1) := by decide +kernel
theorem d2_55 : decode method_3_code 55 = .ok (.iconst 4, 1) := by decide +kernel
theorem d2_56 : decode method_3_code 56 = .ok (.iadd, 1) := by decide +kernel
theorem d2_57 : decode method_3_code 57 = .ok (.baload, 1) := by decide +kernel
theorem d2_58 : decode method_3_code 58 = .ok (.sipush 255, 3) := by decide +kernel
theorem d2_61 : decode method_3_code 61 = .ok (.iand, 1) := by decide +kernel
theorem d2_62 : decode method_3_code 62 = .ok (.i2l, 1) := by decide +kernel
theorem d2_63 : decode method_3_code 63 = .ok (.bipush 24, 2) := by decide +kernel
theorem d2_65 : decode method_3_code 65 = .ok (.lshl, 1) := by decide +kernel
theorem d2_66 : decode method_3_code 66 = .ok (.lor, 1) := by decide +kernel
theorem d2_67 : decode method_3_code 67 = .ok (.aload_n 0, 1) := by decide +kernel
theorem d2_68 : decode method_3_code 68 = .ok (.iload_n 1, 1) := by decide +kernel
theorem d2_69 : decode method_3_code 69 = .ok (.iconst 5, 1) := by decide +kernel
theorem d2_70 : decode method_3_code 70 = .ok (.iadd, 1) := by decide +kernel
theorem d2_71 : decode method_3_code 71 = .ok (.baload, 1) := by decide +kernel
theorem d2_72 : decode method_3_code 72 = .ok (.sipush 255, 3) := by decide +kernel
theorem d2_75 : decode method_3_code 75 = .ok (.iand, 1) := by decide +kernel
theorem d2_76 : decode method_3_code 76 = .ok (.i2l, 1) := by decide +kernel
theorem d2_77 : decode method_3_code 77 = .ok (.bipush 16, 2) := by decide +kernel
theorem d2_79 : decode method_3_code 79 = .ok (.lshl, 1) := by decide +kernel
theorem d2_80 : decode method_3_code 80 = .ok (.lor, 1) := by decide +kernel
theorem d2_81 : decode method_3_code 81 = .ok (.aload_n 0, 1) := by decide +kernel
theorem d2_82 : decode method_3_code 82 = .ok (.iload_n 1, 1) := by decide +kernel
theorem d2_83 : decode method_3_code 83 = .ok (.bipush 6, 2) := by decide +kernel
theorem d2_85 : decode method_3_code 85 = .ok (.iadd, 1) := by decide +kernel
theorem d2_86 : decode method_3_code 86 = .ok (.baload, 1) := by decide +kernel
theorem d2_87 : decode method_3_code 87 = .ok (.sipush 255, 3) := by decide +kernel
theorem d2_90 : decode method_3_code 90 = .ok (.iand, 1) := by decide +kernel
theorem d2_91 : decode method_3_code 91 = .ok (.i2l, 1) := by decide +kernel
theorem d2_92 : decode method_3_code 92 = .ok (.bipush 8, 2) := by decide +kernel
theorem d2_94 : decode method_3_code 94 = .ok (.lshl, 1) := by decide +kernel
theorem d2_95 : decode method_3_code 95 = .ok (.lor, 1) := by decide +kernel
theorem d2_96 : decode method_3_code 96 = .ok (.aload_n 0, 1) := by decide +kernel
theorem d2_97 : decode method_3_code 97 = .ok (.iload_n 1, 1) := by decide +kernel
theorem d2_98 : decode method_3_code 98 = .ok (.bipush 7, 2) := by decide +kernel
theorem d2_100 : decode method_3_code 100 = .ok (.iadd, 1) := by decide +kernel
theorem d2_101 : decode method_3_code 101 = .ok (.baload, 1) := by decide +kernel
theorem d2_102 : decode method_3_code 102 = .ok (.sipush 255, 3) := by decide +kernel
theorem d2_105 : decode method_3_code 105 = .ok (.iand, 1) := by decide +kernel
theorem d2_106 : decode method_3_code 106 = .ok (.i2l, 1) := by decide +kernel
theorem d2_107 : decode method_3_code 107 = .ok (.lor, 1) := by decide +kernel
theorem d2_108 : decode method_3_code 108 = .ok (.lreturn, 1) := by decide +kernel
theorem ef_2 (m : MethodId) (x0 : Addr) (x1 : Int32) : entryFrame m #[(.ref x0), (.int x1)] 2 = mkF m 0 #[.val (.ref x0), .val (.int x1)] [] := by first | (simp [entryFrame, mkF, argsToLocals, Value.category]; done) | rfl
def Q2 (Z : State) (a1 : Addr) (p1 : Int32) (vs1 : List Value) (h0 : Heap) (n0 : Nat) (v : Option Value) (h : Heap) (L : List Loc) : Prop := v = some (.long (own_get vs1 p1.toNatClampNeg)) ∧ Fr n0 L ∧ h = h0
set_option maxRecDepth 65536 in
set_option maxHeartbeats 40000000 in
theorem rm2 (l : Launch) (Z : State) (a0 : Array Value) (hw : ∀ d ∈ tables_1, d.before a0 Z = true) (ws : List Jvm.Cond) (a1 : Addr) (p1 : Int32) (vs1 : List Value) (h0 : Heap) (n0 : Nat) (Z0 : n0 ≤ h0.size) (V_1 : Av Z h0 a1 .byte (48 : Int32) vs1 (.int (0 : Int32))) (hv : IntsL vs1) (ho : 0 ≤ p1.toInt ∧ p1.toInt ≤ 40) :
    MetFree l (⟨"com/example/opaque_token/opaquetoken/token/PinHashOfStoredPinLaw", "get", "([BI)J"⟩ : MethodName) (head1 (Jvm.Cond.code (⟨"com/example/opaque_token/opaquetoken/token/PinHashOfStoredPinLaw", "get", "([BI)J"⟩ : MethodName) method_3_code 2 (some .long) :: ws) ({ frames := 0, cells := 0, slots := 0, locals := 0 } : Room)) (fun a U => a = #[(.ref a1), (.int p1)] ∧ Z.Warmed39 U.vm ∧ U.heap = h0) (fun _ _ _ _ _ => True) (fun _ U o U' => ∃ v L, o = .returned v ∧ Q2 Z a1 p1 vs1 h0 n0 v U'.heap L ∧ FrameEnd U o U' L ({ frames := 0, cells := 0, slots := 0, locals := 0 } : Room).cells ({ frames := 0, cells := 0, slots := 0, locals := 0 } : Room).slots) := by
  refine MetFree.of_bodySF (plainFor_of_name pn_PinHashOfStoredPinLaw) hisR ?_
  intro p e s m args below meth c s₁ Bd hml0 hP hK
  obtain ⟨rfl, hZ, hh⟩ := hP
  have hx := Bd.exec
  have hby := Bd.bytes
  have hml : c.maxLocals = 2 := hml0
  have hown : s.vm.findClass "com/example/opaque_token/opaquetoken/token/PinHashOfStoredPinLaw" = some m.cls := findClass_of_methodNamed Bd.named
  have hnm := (name_of_methodNamed Bd.named Bd.method).1
  have hlk : meth.locks = false := BodyLoose.notSynchronized Bd
  have hret := Bd.returns
  have X0 : Stand p l e ({ frames := 0, cells := 0, slots := 0, locals := 0 } : Room) s m #[(.ref a1), (.int p1)] below meth c s₁ [] 0 0 := Stand.of_body Bd
  have e0 : s₁.heap = h0 := by rw [← hh, Bd.state]; rfl
  have N0 := Fr.nil n0
  refine ogo (U' := s₁.setTop (mkF m 0 #[.val (.ref a1), .val (.int p1)] [])) (Q := Q2 Z a1 p1 vs1 h0 n0) (K := ({ frames := 0, cells := 0, slots := 0, locals := 0 } : Room).cells) (N := ({ frames := 0, cells := 0, slots := 0, locals := 0 } : Room).slots) (fun t k => castTop (ef_2 m a1 p1) k) ?_
  show OwnEnds _ _ _ _ _ _ _ (s₁.setTop (mkF m 0 #[.val (.ref a1), .val (.int p1)] []))
  refine ogo (fun t k => XS.aloadN X0.here hx rfl (hb hby d2_0) rfl rfl k) ?_
  show OwnEnds _ _ _ _ _ _ _ (s₁.setTop (mkF m 1 #[.val (.ref a1), .val (.int p1)] [(.ref a1)]))
  refine ogo (fun t k => XS.iloadN X0.here hx rfl (hb hby d2_1) rfl k) ?_
  show OwnEnds _ _ _ _ _ _ _ (s₁.setTop (mkF m 2 #[.val (.ref a1), .val (.int p1)] [(.int p1), (.ref a1)]))
  obtain ⟨ak1, cl1, Ar1, Aq1, As1, An1, Ah1, Ag1⟩ := id V_1
  refine ogo (fun t k => X0.baloadBytes hx (j := p1) (v := (.int (own_at vs1 (p1.toNatClampNeg + 0)))) (by rw [e0]; exact Ar1.1) (State.isArrayOf_alike hZ.alike Ar1.2.1) Ar1.2.2 (inb_of As1 (own_ix0 ho).1) (Ah1.at (inb_of As1 (own_ix0 ho).1) (by rw [(own_ix0 ho).2]; exact own_at_eq hv _)) (g := (mkF m 2 #[.val (.ref a1), .val (.int p1)] [(.int p1), (.ref a1)])) rfl rfl (hb hby d2_2) t k) ?_
  show OwnEnds _ _ _ _ _ _ _ (s₁.setTop (mkF m 3 #[.val (.ref a1), .val (.int p1)] [(.int (own_at vs1 (p1.toNatClampNeg + 0)))]))
  refine ogo (fun t k => XS.sipush X0.here hx rfl (hb hby d2_3) k) ?_
  show OwnEnds _ _ _ _ _ _ _ (s₁.setTop (mkF m 6 #[.val (.ref a1), .val (.int p1)] [(.int (255 : Int32)), (.int (own_at vs1 (p1.toNatClampNeg + 0)))]))
  refine ogo (fun t k => XS.iand X0.here hx rfl (hb hby d2_6) rfl k) ?_
  show OwnEnds _ _ _ _ _ _ _ (s₁.setTop (mkF m 7 #[.val (.ref a1), .val (.int p1)] [(.int ((own_at vs1 (p1.toNatClampNeg + 0)) &&& (255 : Int32)))]))
  refine ogo (fun t k => XS.i2l X0.here hx rfl (hb hby d2_7) rfl k) ?_
  show OwnEnds _ _ _ _ _ _ _ (s₁.setTop (mkF m 8 #[.val (.ref a1), .val (.int p1)] [(.long (((own_at vs1 (p1.toNatClampNeg + 0)) &&& (255 : Int32)).toInt64))]))
  refine ogo (fun t k => XS.bipush X0.here hx rfl (hb hby d2_8) k) ?_
  show OwnEnds _ _ _ _ _ _ _ (s₁.setTop (mkF m 10 #[.val (.ref a1), .val (.int p1)] [(.int (56 : Int32)), (.long (((own_at vs1 (p1.toNatClampNeg + 0)) &&& (255 : Int32)).toInt64))]))
  refine ogo (fun t k => XS.lshl X0.here hx rfl (hb hby d2_10) rfl k) ?_
  show OwnEnds _ _ _ _ _ _ _ (s₁.setTop (mkF m 11 #[.val (.ref a1), .val (.int p1)] [(.long ((((own_at vs1 (p1.toNatClampNeg + 0)) &&& (255 : Int32)).toInt64) <<< ((56 : Int32) &&& 0x3f).toInt64))]))
  refine ogo (fun t k => XS.aloadN X0.here hx rfl (hb hby d2_11) rfl rfl k) ?_
  show OwnEnds _ _ _ _ _ _ _ (s₁.setTop (mkF m 12 #[.val (.ref a1), .val (.int p1)] [(.ref a1), (.long ((((own_at vs1 (p1.toNatClampNeg + 0)) &&& (255 : Int32)).toInt64) <<< ((56 : Int32) &&& 0x3f).toInt64))]))
  refine ogo (fun t k => XS.iloadN X0.here hx rfl (hb hby d2_12) rfl k) ?_
  show OwnEnds _ _ _ _ _ _ _ (s₁.setTop (mkF m 13 #[.val (.ref a1), .val (.int p1)] [(.int p1), (.ref a1), (.long ((((own_at vs1 (p1.toNatClampNeg + 0)) &&& (255 : Int32)).toInt64) <<< ((56 : Int32) &&& 0x3f).toInt64))]))
  refine ogo (fun t k => XS.iconst X0.here hx rfl (hb hby d2_13) k) ?_
  show OwnEnds _ _ _ _ _ _ _ (s₁.setTop (mkF m 14 #[.val (.ref a1), .val (.int p1)] [(.int (1 : Int32)), (.int p1), (.ref a1), (.long ((((own_at vs1 (p1.toNatClampNeg + 0)) &&& (255 : Int32)).toInt64) <<< ((56 : Int32) &&& 0x3f).toInt64))]))
  refine ogo (fun t k => XS.iadd X0.here hx rfl (hb hby d2_14) rfl k) ?_
  show OwnEnds _ _ _ _ _ _ _ (s₁.setTop (mkF m 15 #[.val (.ref a1), .val (.int p1)] [(.int (p1 + (1 : Int32))), (.ref a1), (.long ((((own_at vs1 (p1.toNatClampNeg + 0)) &&& (255 : Int32)).toInt64) <<< ((56 : Int32) &&& 0x3f).toInt64))]))
  obtain ⟨ak2, cl2, Ar2, Aq2, As2, An2, Ah2, Ag2⟩ := id V_1
  refine ogo (fun t k => X0.baloadBytes hx (j := (p1 + (1 : Int32))) (v := (.int (own_at vs1 (p1.toNatClampNeg + 1)))) (by rw [e0]; exact Ar2.1) (State.isArrayOf_alike hZ.alike Ar2.2.1) Ar2.2.2 (inb_of As2 (own_ix ho 1 1 (by decide) (by decide)).1) (Ah2.at (inb_of As2 (own_ix ho 1 1 (by decide) (by decide)).1) (by rw [(own_ix ho 1 1 (by decide) (by decide)).2]; exact own_at_eq hv _)) (g := (mkF m 15 #[.val (.ref a1), .val (.int p1)] [(.int (p1 + (1 : Int32))), (.ref a1), (.long ((((own_at vs1 (p1.toNatClampNeg + 0)) &&& (255 : Int32)).toInt64) <<< ((56 : Int32) &&& 0x3f).toInt64))])) rfl rfl (hb hby d2_15) t k) ?_
  show OwnEnds _ _ _ _ _ _ _ (s₁.setTop (mkF m 16 #[.val (.ref a1), .val (.int p1)] [(.int (own_at vs1 (p1.toNatClampNeg + 1))), (.long ((((own_at vs1 (p1.toNatClampNeg + 0)) &&& (255 : Int32)).toInt64) <<< ((56 : Int32) &&& 0x3f).toInt64))]))
  refine ogo (fun t k => XS.sipush X0.here hx rfl (hb hby d2_16) k) ?_
  show OwnEnds _ _ _ _ _ _ _ (s₁.setTop (mkF m 19 #[.val (.ref a1), .val (.int p1)] [(.int (255 : Int32)), (.int (own_at vs1 (p1.toNatClampNeg + 1))), (.long ((((own_at vs1 (p1.toNatClampNeg + 0)) &&& (255 : Int32)).toInt64) <<< ((56 : Int32) &&& 0x3f).toInt64))]))
  refine ogo (fun t k => XS.iand X0.here hx rfl (hb hby d2_19) rfl k) ?_
  show OwnEnds _ _ _ _ _ _ _ (s₁.setTop (mkF m 20 #[.val (.ref a1), .val (.int p1)] [(.int ((own_at vs1 (p1.toNatClampNeg + 1)) &&& (255 : Int32))), (.long ((((own_at vs1 (p1.toNatClampNeg + 0)) &&& (255 : Int32)).toInt64) <<< ((56 : Int32) &&& 0x3f).toInt64))]))
  refine ogo (fun t k => XS.i2l X0.here hx rfl (hb hby d2_20) rfl k) ?_
  show OwnEnds _ _ _ _ _ _ _ (s₁.setTop (mkF m 21 #[.val (.ref a1), .val (.int p1)] [(.long (((own_at vs1 (p1.toNatClampNeg + 1)) &&& (255 : Int32)).toInt64)), (.long ((((own_at vs1 (p1.toNatClampNeg + 0)) &&& (255 : Int32)).toInt64) <<< ((56 : Int32) &&& 0x3f).toInt64))]))
  refine ogo (fun t k => XS.bipush X0.here hx rfl (hb hby d2_21) k) ?_
  show OwnEnds _ _ _ _ _ _ _ (s₁.setTop (mkF m 23 #[.val (.ref a1), .val (.int p1)] [(.int (48 : Int32)), (.long (((own_at vs1 (p1.toNatClampNeg + 1)) &&& (255 : Int32)).toInt64)), (.long ((((own_at vs1 (p1.toNatClampNeg + 0)) &&& (255 : Int32)).toInt64) <<< ((56 : Int32) &&& 0x3f).toInt64))]))
  refine ogo (fun t k => XS.lshl X0.here hx rfl (hb hby d2_23) rfl k) ?_
  show OwnEnds _ _ _ _ _ _ _ (s₁.setTop (mkF m 24 #[.val (.ref a1), .val (.int p1)] [(.long ((((own_at vs1 (p1.toNatClampNeg + 1)) &&& (255 : Int32)).toInt64) <<< ((48 : Int32) &&& 0x3f).toInt64)), (.long ((((own_at vs1 (p1.toNatClampNeg + 0)) &&& (255 : Int32)).toInt64) <<< ((56 : Int32) &&& 0x3f).toInt64))]))
  refine ogo (fun t k => XS.lor X0.here hx rfl (hb hby d2_24) rfl k) ?_
  show OwnEnds _ _ _ _ _ _ _ (s₁.setTop (mkF m 25 #[.val (.ref a1), .val (.int p1)] [(.long (((((own_at vs1 (p1.toNatClampNeg + 0)) &&& (255 : Int32)).toInt64) <<< ((56 : Int32) &&& 0x3f).toInt64) ||| ((((own_at vs1 (p1.toNatClampNeg + 1)) &&& (255 : Int32)).toInt64) <<< ((48 : Int32) &&& 0x3f).toInt64)))]))
  refine ogo (fun t k => XS.aloadN X0.here hx rfl (hb hby d2_25) rfl rfl k) ?_
  show OwnEnds _ _ _ _ _ _ _ (s₁.setTop (mkF m 26 #[.val (.ref a1), .val (.int p1)] [(.ref a1), (.long (((((own_at vs1 (p1.toNatClampNeg + 0)) &&& (255 : Int32)).toInt64) <<< ((56 : Int32) &&& 0x3f).toInt64) ||| ((((own_at vs1 (p1.toNatClampNeg + 1)) &&& (255 : Int32)).toInt64) <<< ((48 : Int32) &&& 0x3f).toInt64)))]))
  refine ogo (fun t k => XS.iloadN X0.here hx rfl (hb hby d2_26) rfl k) ?_
  show OwnEnds _ _ _ _ _ _ _ (s₁.setTop (mkF m 27 #[.val (.ref a1), .val (.int p1)] [(.int p1), (.ref a1), (.long (((((own_at vs1 (p1.toNatClampNeg + 0)) &&& (255 : Int32)).toInt64) <<< ((56 : Int32) &&& 0x3f).toInt64) ||| ((((own_at vs1 (p1.toNatClampNeg + 1)) &&& (255 : Int32)).toInt64) <<< ((48 : Int32) &&& 0x3f).toInt64)))]))
  refine ogo (fun t k => XS.iconst X0.here hx rfl (hb hby d2_27) k) ?_
  show OwnEnds _ _ _ _ _ _ _ (s₁.setTop (mkF m 28 #[.val (.ref a1), .val (.int p1)] [(.int (2 : Int32)), (.int p1), (.ref a1), (.long (((((own_at vs1 (p1.toNatClampNeg + 0)) &&& (255 : Int32)).toInt64) <<< ((56 : Int32) &&& 0x3f).toInt64) ||| ((((own_at vs1 (p1.toNatClampNeg + 1)) &&& (255 : Int32)).toInt64) <<< ((48 : Int32) &&& 0x3f).toInt64)))]))
  refine ogo (fun t k => XS.iadd X0.here hx rfl (hb hby d2_28) rfl k) ?_
  show OwnEnds _ _ _ _ _ _ _ (s₁.setTop (mkF m 29 #[.val (.ref a1), .val (.int p1)] [(.int (p1 + (2 : Int32))), (.ref a1), (.long (((((own_at vs1 (p1.toNatClampNeg + 0)) &&& (255 : Int32)).toInt64) <<< ((56 : Int32) &&& 0x3f).toInt64) ||| ((((own_at vs1 (p1.toNatClampNeg + 1)) &&& (255 : Int32)).toInt64) <<< ((48 : Int32) &&& 0x3f).toInt64)))]))
  obtain ⟨ak3, cl3, Ar3, Aq3, As3, An3, Ah3, Ag3⟩ := id V_1
  refine ogo (fun t k => X0.baloadBytes hx (j := (p1 + (2 : Int32))) (v := (.int (own_at vs1 (p1.toNatClampNeg + 2)))) (by rw [e0]; exact Ar3.1) (State.isArrayOf_alike hZ.alike Ar3.2.1) Ar3.2.2 (inb_of As3 (own_ix ho 2 2 (by decide) (by decide)).1) (Ah3.at (inb_of As3 (own_ix ho 2 2 (by decide) (by decide)).1) (by rw [(own_ix ho 2 2 (by decide) (by decide)).2]; exact own_at_eq hv _)) (g := (mkF m 29 #[.val (.ref a1), .val (.int p1)] [(.int (p1 + (2 : Int32))), (.ref a1), (.long (((((own_at vs1 (p1.toNatClampNeg + 0)) &&& (255 : Int32)).toInt64) <<< ((56 : Int32) &&& 0x3f).toInt64) ||| ((((own_at vs1 (p1.toNatClampNeg + 1)) &&& (255 : Int32)).toInt64) <<< ((48 : Int32) &&& 0x3f).toInt64)))])) rfl rfl (hb hby d2_29) t k) ?_
  show OwnEnds _ _ _ _ _ _ _ (s₁.setTop (mkF m 30 #[.val (.ref a1), .val (.int p1)] [(.int (own_at vs1 (p1.toNatClampNeg + 2))), (.long (((((own_at vs1 (p1.toNatClampNeg + 0)) &&& (255 : Int32)).toInt64) <<< ((56 : Int32) &&& 0x3f).toInt64) ||| ((((own_at vs1 (p1.toNatClampNeg + 1)) &&& (255 : Int32)).toInt64) <<< ((48 : Int32) &&& 0x3f).toInt64)))]))
  refine ogo (fun t k => XS.sipush X0.here hx rfl (hb hby d2_30) k) ?_
  show OwnEnds _ _ _ _ _ _ _ (s₁.setTop (mkF m 33 #[.val (.ref a1), .val (.int p1)] [(.int (255 : Int32)), (.int (own_at vs1 (p1.toNatClampNeg + 2))), (.long (((((own_at vs1 (p1.toNatClampNeg + 0)) &&& (255 : Int32)).toInt64) <<< ((56 : Int32) &&& 0x3f).toInt64) ||| ((((own_at vs1 (p1.toNatClampNeg + 1)) &&& (255 : Int32)).toInt64) <<< ((48 : Int32) &&& 0x3f).toInt64)))]))
  refine ogo (fun t k => XS.iand X0.here hx rfl (hb hby d2_33) rfl k) ?_
  show OwnEnds _ _ _ _ _ _ _ (s₁.setTop (mkF m 34 #[.val (.ref a1), .val (.int p1)] [(.int ((own_at vs1 (p1.toNatClampNeg + 2)) &&& (255 : Int32))), (.long (((((own_at vs1 (p1.toNatClampNeg + 0)) &&& (255 : Int32)).toInt64) <<< ((56 : Int32) &&& 0x3f).toInt64) ||| ((((own_at vs1 (p1.toNatClampNeg + 1)) &&& (255 : Int32)).toInt64) <<< ((48 : Int32) &&& 0x3f).toInt64)))]))
  refine ogo (fun t k => XS.i2l X0.here hx rfl (hb hby d2_34) rfl k) ?_
  show OwnEnds _ _ _ _ _ _ _ (s₁.setTop (mkF m 35 #[.val (.ref a1), .val (.int p1)] [(.long (((own_at vs1 (p1.toNatClampNeg + 2)) &&& (255 : Int32)).toInt64)), (.long (((((own_at vs1 (p1.toNatClampNeg + 0)) &&& (255 : Int32)).toInt64) <<< ((56 : Int32) &&& 0x3f).toInt64) ||| ((((own_at vs1 (p1.toNatClampNeg + 1)) &&& (255 : Int32)).toInt64) <<< ((48 : Int32) &&& 0x3f).toInt64)))]))
  refine ogo (fun t k => XS.bipush X0.here hx rfl (hb hby d2_35) k) ?_
  show OwnEnds _ _ _ _ _ _ _ (s₁.setTop (mkF m 37 #[.val (.ref a1), .val (.int p1)] [(.int (40 : Int32)), (.long (((own_at vs1 (p1.toNatClampNeg + 2)) &&& (255 : Int32)).toInt64)), (.long (((((own_at vs1 (p1.toNatClampNeg + 0)) &&& (255 : Int32)).toInt64) <<< ((56 : Int32) &&& 0x3f).toInt64) ||| ((((own_at vs1 (p1.toNatClampNeg + 1)) &&& (255 : Int32)).toInt64) <<< ((48 : Int32) &&& 0x3f).toInt64)))]))
  refine ogo (fun t k => XS.lshl X0.here hx rfl (hb hby d2_37) rfl k) ?_
  show OwnEnds _ _ _ _ _ _ _ (s₁.setTop (mkF m 38 #[.val (.ref a1), .val (.int p1)] [(.long ((((own_at vs1 (p1.toNatClampNeg + 2)) &&& (255 : Int32)).toInt64) <<< ((40 : Int32) &&& 0x3f).toInt64)), (.long (((((own_at vs1 (p1.toNatClampNeg + 0)) &&& (255 : Int32)).toInt64) <<< ((56 : Int32) &&& 0x3f).toInt64) ||| ((((own_at vs1 (p1.toNatClampNeg + 1)) &&& (255 : Int32)).toInt64) <<< ((48 : Int32) &&& 0x3f).toInt64)))]))
  refine ogo (fun t k => XS.lor X0.here hx rfl (hb hby d2_38) rfl k) ?_
  show OwnEnds _ _ _ _ _ _ _ (s₁.setTop (mkF m 39 #[.val (.ref a1), .val (.int p1)] [(.long ((((((own_at vs1 (p1.toNatClampNeg + 0)) &&& (255 : Int32)).toInt64) <<< ((56 : Int32) &&& 0x3f).toInt64) ||| ((((own_at vs1 (p1.toNatClampNeg + 1)) &&& (255 : Int32)).toInt64) <<< ((48 : Int32) &&& 0x3f).toInt64)) ||| ((((own_at vs1 (p1.toNatClampNeg + 2)) &&& (255 : Int32)).toInt64) <<< ((40 : Int32) &&& 0x3f).toInt64)))]))
  refine ogo (fun t k => XS.aloadN X0.here hx rfl (hb hby d2_39) rfl rfl k) ?_
  show OwnEnds _ _ _ _ _ _ _ (s₁.setTop (mkF m 40 #[.val (.ref a1), .val (.int p1)] [(.ref a1), (.long ((((((own_at vs1 (p1.toNatClampNeg + 0)) &&& (255 : Int32)).toInt64) <<< ((56 : Int32) &&& 0x3f).toInt64) ||| ((((own_at vs1 (p1.toNatClampNeg + 1)) &&& (255 : Int32)).toInt64) <<< ((48 : Int32) &&& 0x3f).toInt64)) ||| ((((own_at vs1 (p1.toNatClampNeg + 2)) &&& (255 : Int32)).toInt64) <<< ((40 : Int32) &&& 0x3f).toInt64)))]))
  refine ogo (fun t k => XS.iloadN X0.here hx rfl (hb hby d2_40) rfl k) ?_
  show OwnEnds _ _ _ _ _ _ _ (s₁.setTop (mkF m 41 #[.val (.ref a1), .val (.int p1)] [(.int p1), (.ref a1), (.long ((((((own_at vs1 (p1.toNatClampNeg + 0)) &&& (255 : Int32)).toInt64) <<< ((56 : Int32) &&& 0x3f).toInt64) ||| ((((own_at vs1 (p1.toNatClampNeg + 1)) &&& (255 : Int32)).toInt64) <<< ((48 : Int32) &&& 0x3f).toInt64)) ||| ((((own_at vs1 (p1.toNatClampNeg + 2)) &&& (255 : Int32)).toInt64) <<< ((40 : Int32) &&& 0x3f).toInt64)))]))
  refine ogo (fun t k => XS.iconst X0.here hx rfl (hb hby d2_41) k) ?_
  show OwnEnds _ _ _ _ _ _ _ (s₁.setTop (mkF m 42 #[.val (.ref a1), .val (.int p1)] [(.int (3 : Int32)), (.int p1), (.ref a1), (.long ((((((own_at vs1 (p1.toNatClampNeg + 0)) &&& (255 : Int32)).toInt64) <<< ((56 : Int32) &&& 0x3f).toInt64) ||| ((((own_at vs1 (p1.toNatClampNeg + 1)) &&& (255 : Int32)).toInt64) <<< ((48 : Int32) &&& 0x3f).toInt64)) ||| ((((own_at vs1 (p1.toNatClampNeg + 2)) &&& (255 : Int32)).toInt64) <<< ((40 : Int32) &&& 0x3f).toInt64)))]))
  refine ogo (fun t k => XS.iadd X0.here hx rfl (hb hby d2_42) rfl k) ?_
  show OwnEnds _ _ _ _ _ _ _ (s₁.setTop (mkF m 43 #[.val (.ref a1), .val (.int p1)] [(.int (p1 + (3 : Int32))), (.ref a1), (.long ((((((own_at vs1 (p1.toNatClampNeg + 0)) &&& (255 : Int32)).toInt64) <<< ((56 : Int32) &&& 0x3f).toInt64) ||| ((((own_at vs1 (p1.toNatClampNeg + 1)) &&& (255 : Int32)).toInt64) <<< ((48 : Int32) &&& 0x3f).toInt64)) ||| ((((own_at vs1 (p1.toNatClampNeg + 2)) &&& (255 : Int32)).toInt64) <<< ((40 : Int32) &&& 0x3f).toInt64)))]))
  obtain ⟨ak4, cl4, Ar4, Aq4, As4, An4, Ah4, Ag4⟩ := id V_1
  refine ogo (fun t k => X0.baloadBytes hx (j := (p1 + (3 : Int32))) (v := (.int (own_at vs1 (p1.toNatClampNeg + 3)))) (by rw [e0]; exact Ar4.1) (State.isArrayOf_alike hZ.alike Ar4.2.1) Ar4.2.2 (inb_of As4 (own_ix ho 3 3 (by decide) (by decide)).1) (Ah4.at (inb_of As4 (own_ix ho 3 3 (by decide) (by decide)).1) (by rw [(own_ix ho 3 3 (by decide) (by decide)).2]; exact own_at_eq hv _)) (g := (mkF m 43 #[.val (.ref a1), .val (.int p1)] [(.int (p1 + (3 : Int32))), (.ref a1), (.long ((((((own_at vs1 (p1.toNatClampNeg + 0)) &&& (255 : Int32)).toInt64) <<< ((56 : Int32) &&& 0x3f).toInt64) ||| ((((own_at vs1 (p1.toNatClampNeg + 1)) &&& (255 : Int32)).toInt64) <<< ((48 : Int32) &&& 0x3f).toInt64)) ||| ((((own_at vs1 (p1.toNatClampNeg + 2)) &&& (255 : Int32)).toInt64) <<< ((40 : Int32) &&& 0x3f).toInt64)))])) rfl rfl (hb hby d2_43) t k) ?_
  show OwnEnds _ _ _ _ _ _ _ (s₁.setTop (mkF m 44 #[.val (.ref a1), .val (.int p1)] [(.int (own_at vs1 (p1.toNatClampNeg + 3))), (.long ((((((own_at vs1 (p1.toNatClampNeg + 0)) &&& (255 : Int32)).toInt64) <<< ((56 : Int32) &&& 0x3f).toInt64) ||| ((((own_at vs1 (p1.toNatClampNeg + 1)) &&& (255 : Int32)).toInt64) <<< ((48 : Int32) &&& 0x3f).toInt64)) ||| ((((own_at vs1 (p1.toNatClampNeg + 2)) &&& (255 : Int32)).toInt64) <<< ((40 : Int32) &&& 0x3f).toInt64)))]))
  refine ogo (fun t k => XS.sipush X0.here hx rfl (hb hby d2_44) k) ?_
  show OwnEnds _ _ _ _ _ _ _ (s₁.setTop (mkF m 47 #[.val (.ref a1), .val (.int p1)] [(.int (255 : Int32)), (.int (own_at vs1 (p1.toNatClampNeg + 3))), (.long ((((((own_at vs1 (p1.toNatClampNeg + 0)) &&& (255 : Int32)).toInt64) <<< ((56 : Int32) &&& 0x3f).toInt64) ||| ((((own_at vs1 (p1.toNatClampNeg + 1)) &&& (255 : Int32)).toInt64) <<< ((48 : Int32) &&& 0x3f).toInt64)) ||| ((((own_at vs1 (p1.toNatClampNeg + 2)) &&& (255 : Int32)).toInt64) <<< ((40 : Int32) &&& 0x3f).toInt64)))]))
  refine ogo (fun t k => XS.iand X0.here hx rfl (hb hby d2_47) rfl k) ?_
  show OwnEnds _ _ _ _ _ _ _ (s₁.setTop (mkF m 48 #[.val (.ref a1), .val (.int p1)] [(.int ((own_at vs1 (p1.toNatClampNeg + 3)) &&& (255 : Int32))), (.long ((((((own_at vs1 (p1.toNatClampNeg + 0)) &&& (255 : Int32)).toInt64) <<< ((56 : Int32) &&& 0x3f).toInt64) ||| ((((own_at vs1 (p1.toNatClampNeg + 1)) &&& (255 : Int32)).toInt64) <<< ((48 : Int32) &&& 0x3f).toInt64)) ||| ((((own_at vs1 (p1.toNatClampNeg + 2)) &&& (255 : Int32)).toInt64) <<< ((40 : Int32) &&& 0x3f).toInt64)))]))
  refine ogo (fun t k => XS.i2l X0.here hx rfl (hb hby d2_48) rfl k) ?_
  show OwnEnds _ _ _ _ _ _ _ (s₁.setTop (mkF m 49 #[.val (.ref a1), .val (.int p1)] [(.long (((own_at vs1 (p1.toNatClampNeg + 3)) &&& (255 : Int32)).toInt64)), (.long ((((((own_at vs1 (p1.toNatClampNeg + 0)) &&& (255 : Int32)).toInt64) <<< ((56 : Int32) &&& 0x3f).toInt64) ||| ((((own_at vs1 (p1.toNatClampNeg + 1)) &&& (255 : Int32)).toInt64) <<< ((48 : Int32) &&& 0x3f).toInt64)) ||| ((((own_at vs1 (p1.toNatClampNeg + 2)) &&& (255 : Int32)).toInt64) <<< ((40 : Int32) &&& 0x3f).toInt64)))]))
  refine ogo (fun t k => XS.bipush X0.here hx rfl (hb hby d2_49) k) ?_
  show OwnEnds _ _ _ _ _ _ _ (s₁.setTop (mkF m 51 #[.val (.ref a1), .val (.int p1)] [(.int (32 : Int32)), (.long (((own_at vs1 (p1.toNatClampNeg + 3)) &&& (255 : Int32)).toInt64)), (.long ((((((own_at vs1 (p1.toNatClampNeg + 0)) &&& (255 : Int32)).toInt64) <<< ((56 : Int32) &&& 0x3f).toInt64) ||| ((((own_at vs1 (p1.toNatClampNeg + 1)) &&& (255 : Int32)).toInt64) <<< ((48 : Int32) &&& 0x3f).toInt64)) ||| ((((own_at vs1 (p1.toNatClampNeg + 2)) &&& (255 : Int32)).toInt64) <<< ((40 : Int32) &&& 0x3f).toInt64)))]))
  refine ogo (fun t k => XS.lshl X0.here hx rfl (hb hby d2_51) rfl k) ?_
  show OwnEnds _ _ _ _ _ _ _ (s₁.setTop (mkF m 52 #[.val (.ref a1), .val (.int p1)] [(.long ((((own_at vs1 (p1.toNatClampNeg + 3)) &&& (255 : Int32)).toInt64) <<< ((32 : Int32) &&& 0x3f).toInt64)), (.long ((((((own_at vs1 (p1.toNatClampNeg + 0)) &&& (255 : Int32)).toInt64) <<< ((56 : Int32) &&& 0x3f).toInt64) ||| ((((own_at vs1 (p1.toNatClampNeg + 1)) &&& (255 : Int32)).toInt64) <<< ((48 : Int32) &&& 0x3f).toInt64)) ||| ((((own_at vs1 (p1.toNatClampNeg + 2)) &&& (255 : Int32)).toInt64) <<< ((40 : Int32) &&& 0x3f).toInt64)))]))
  refine ogo (fun t k => XS.lor X0.here hx rfl (hb hby d2_52) rfl k) ?_
  show OwnEnds _ _ _ _ _ _ _ (s₁.setTop (mkF m 53 #[.val (.ref a1), .val (.int p1)] [(.long (((((((own_at vs1 (p1.toNatClampNeg + 0)) &&& (255 : Int32)).toInt64) <<< ((56 : Int32) &&& 0x3f).toInt64) ||| ((((own_at vs1 (p1.toNatClampNeg + 1)) &&& (255 : Int32)).toInt64) <<< ((48 : Int32) &&& 0x3f).toInt64)) ||| ((((own_at vs1 (p1.toNatClampNeg + 2)) &&& (255 : Int32)).toInt64) <<< ((40 : Int32) &&& 0x3f).toInt64)) ||| ((((own_at vs1 (p1.toNatClampNeg + 3)) &&& (255 : Int32)).toInt64) <<< ((32 : Int32) &&& 0x3f).toInt64)))]))
  refine ogo (fun t k => XS.aloadN X0.here hx rfl (hb hby d2_53) rfl rfl k) ?_
  show OwnEnds _ _ _ _ _ _ _ (s₁.setTop (mkF m 54 #[.val (.ref a1), .val (.int p1)] [(.ref a1), (.long (((((((own_at vs1 (p1.toNatClampNeg + 0)) &&& (255 : Int32)).toInt64) <<< ((56 : Int32) &&& 0x3f).toInt64) ||| ((((own_at vs1 (p1.toNatClampNeg + 1)) &&& (255 : Int32)).toInt64) <<< ((48 : Int32) &&& 0x3f).toInt64)) ||| ((((own_at vs1 (p1.toNatClampNeg + 2)) &&& (255 : Int32)).toInt64) <<< ((40 : Int32) &&& 0x3f).toInt64)) ||| ((((own_at vs1 (p1.toNatClampNeg + 3)) &&& (255 : Int32)).toInt64) <<< ((32 : Int32) &&& 0x3f).toInt64)))]))
  refine ogo (fun t k => XS.iloadN X0.here hx rfl (hb hby d2_54) rfl k) ?_
  show OwnEnds _ _ _ _ _ _ _ (s₁.setTop (mkF m 55 #[.val (.ref a1), .val (.int p1)] [(.int p1), (.ref a1), (.long (((((((own_at vs1 (p1.toNatClampNeg + 0)) &&& (255 : Int32)).toInt64) <<< ((56 : Int32) &&& 0x3f).toInt64) ||| ((((own_at vs1 (p1.toNatClampNeg + 1)) &&& (255 : Int32)).toInt64) <<< ((48 : Int32) &&& 0x3f).toInt64)) ||| ((((own_at vs1 (p1.toNatClampNeg + 2)) &&& (255 : Int32)).toInt64) <<< ((40 : Int32) &&& 0x3f).toInt64)) ||| ((((own_at vs1 (p1.toNatClampNeg + 3)) &&& (255 : Int32)).toInt64) <<< ((32 : Int32) &&& 0x3f).toInt64)))]))
  refine ogo (fun t k => XS.iconst X0.here hx rfl (hb hby d2_55) k) ?_
  show OwnEnds _ _ _ _ _ _ _ (s₁.setTop (mkF m 56 #[.val (.ref a1), .val (.int p1)] [(.int (4 : Int32)), (.int p1), (.ref a1), (.long (((((((own_at vs1 (p1.toNatClampNeg + 0)) &&& (255 : Int32)).toInt64) <<< ((56 : Int32) &&& 0x3f).toInt64) ||| ((((own_at vs1 (p1.toNatClampNeg + 1)) &&& (255 : Int32)).toInt64) <<< ((48 : Int32) &&& 0x3f).toInt64)) ||| ((((own_at vs1 (p1.toNatClampNeg + 2)) &&& (255 : Int32)).toInt64) <<< ((40 : Int32) &&& 0x3f).toInt64)) ||| ((((own_at vs1 (p1.toNatClampNeg + 3)) &&& (255 : Int32)).toInt64) <<< ((32 : Int32) &&& 0x3f).toInt64)))]))
  refine ogo (fun t k => XS.iadd X0.here hx rfl (hb hby d2_56) rfl k) ?_
  show OwnEnds _ _ _ _ _ _ _ (s₁.setTop (mkF m 57 #[.val (.ref a1), .val (.int p1)] [(.int (p1 + (4 : Int32))), (.ref a1), (.long (((((((own_at vs1 (p1.toNatClampNeg + 0)) &&& (255 : Int32)).toInt64) <<< ((56 : Int32) &&& 0x3f).toInt64) ||| ((((own_at vs1 (p1.toNatClampNeg + 1)) &&& (255 : Int32)).toInt64) <<< ((48 : Int32) &&& 0x3f).toInt64)) ||| ((((own_at vs1 (p1.toNatClampNeg + 2)) &&& (255 : Int32)).toInt64) <<< ((40 : Int32) &&& 0x3f).toInt64)) ||| ((((own_at vs1 (p1.toNatClampNeg + 3)) &&& (255 : Int32)).toInt64) <<< ((32 : Int32) &&& 0x3f).toInt64)))]))
  obtain ⟨ak5, cl5, Ar5, Aq5, As5, An5, Ah5, Ag5⟩ := id V_1
  refine ogo (fun t k => X0.baloadBytes hx (j := (p1 + (4 : Int32))) (v := (.int (own_at vs1 (p1.toNatClampNeg + 4)))) (by rw [e0]; exact Ar5.1) (State.isArrayOf_alike hZ.alike Ar5.2.1) Ar5.2.2 (inb_of As5 (own_ix ho 4 4 (by decide) (by decide)).1) (Ah5.at (inb_of As5 (own_ix ho 4 4 (by decide) (by decide)).1) (by rw [(own_ix ho 4 4 (by decide) (by decide)).2]; exact own_at_eq hv _)) (g := (mkF m 57 #[.val (.ref a1), .val (.int p1)] [(.int (p1 + (4 : Int32))), (.ref a1), (.long (((((((own_at vs1 (p1.toNatClampNeg + 0)) &&& (255 : Int32)).toInt64) <<< ((56 : Int32) &&& 0x3f).toInt64) ||| ((((own_at vs1 (p1.toNatClampNeg + 1)) &&& (255 : Int32)).toInt64) <<< ((48 : Int32) &&& 0x3f).toInt64)) ||| ((((own_at vs1 (p1.toNatClampNeg + 2)) &&& (255 : Int32)).toInt64) <<< ((40 : Int32) &&& 0x3f).toInt64)) ||| ((((own_at vs1 (p1.toNatClampNeg + 3)) &&& (255 : Int32)).toInt64) <<< ((32 : Int32) &&& 0x3f).toInt64)))])) rfl rfl (hb hby d2_57) t k) ?_
  show OwnEnds _ _ _ _ _ _ _ (s₁.setTop (mkF m 58 #[.val (.ref a1), .val (.int p1)] [(.int (own_at vs1 (p1.toNatClampNeg + 4))), (.long (((((((own_at vs1 (p1.toNatClampNeg + 0)) &&& (255 : Int32)).toInt64) <<< ((56 : Int32) &&& 0x3f).toInt64) ||| ((((own_at vs1 (p1.toNatClampNeg + 1)) &&& (255 : Int32)).toInt64) <<< ((48 : Int32) &&& 0x3f).toInt64)) ||| ((((own_at vs1 (p1.toNatClampNeg + 2)) &&& (255 : Int32)).toInt64) <<< ((40 : Int32) &&& 0x3f).toInt64)) ||| ((((own_at vs1 (p1.toNatClampNeg + 3)) &&& (255 : Int32)).toInt64) <<< ((32 : Int32) &&& 0x3f).toInt64)))]))
  refine ogo (fun t k => XS.sipush X0.here hx rfl (hb hby d2_58) k) ?_
  show OwnEnds _ _ _ _ _ _ _ (s₁.setTop (mkF m 61 #[.val (.ref a1), .val (.int p1)] [(.int (255 : Int32)), (.int (own_at vs1 (p1.toNatClampNeg + 4))), (.long (((((((own_at vs1 (p1.toNatClampNeg + 0)) &&& (255 : Int32)).toInt64) <<< ((56 : Int32) &&& 0x3f).toInt64) ||| ((((own_at vs1 (p1.toNatClampNeg + 1)) &&& (255 : Int32)).toInt64) <<< ((48 : Int32) &&& 0x3f).toInt64)) ||| ((((own_at vs1 (p1.toNatClampNeg + 2)) &&& (255 : Int32)).toInt64) <<< ((40 : Int32) &&& 0x3f).toInt64)) ||| ((((own_at vs1 (p1.toNatClampNeg + 3)) &&& (255 : Int32)).toInt64) <<< ((32 : Int32) &&& 0x3f).toInt64)))]))
  refine ogo (fun t k => XS.iand X0.here hx rfl (hb hby d2_61) rfl k) ?_
  show OwnEnds _ _ _ _ _ _ _ (s₁.setTop (mkF m 62 #[.val (.ref a1), .val (.int p1)] [(.int ((own_at vs1 (p1.toNatClampNeg + 4)) &&& (255 : Int32))), (.long (((((((own_at vs1 (p1.toNatClampNeg + 0)) &&& (255 : Int32)).toInt64) <<< ((56 : Int32) &&& 0x3f).toInt64) ||| ((((own_at vs1 (p1.toNatClampNeg + 1)) &&& (255 : Int32)).toInt64) <<< ((48 : Int32) &&& 0x3f).toInt64)) ||| ((((own_at vs1 (p1.toNatClampNeg + 2)) &&& (255 : Int32)).toInt64) <<< ((40 : Int32) &&& 0x3f).toInt64)) ||| ((((own_at vs1 (p1.toNatClampNeg + 3)) &&& (255 : Int32)).toInt64) <<< ((32 : Int32) &&& 0x3f).toInt64)))]))
  refine ogo (fun t k => XS.i2l X0.here hx rfl (hb hby d2_62) rfl k) ?_
  show OwnEnds _ _ _ _ _ _ _ (s₁.setTop (mkF m 63 #[.val (.ref a1), .val (.int p1)] [(.long (((own_at vs1 (p1.toNatClampNeg + 4)) &&& (255 : Int32)).toInt64)), (.long (((((((own_at vs1 (p1.toNatClampNeg + 0)) &&& (255 : Int32)).toInt64) <<< ((56 : Int32) &&& 0x3f).toInt64) ||| ((((own_at vs1 (p1.toNatClampNeg + 1)) &&& (255 : Int32)).toInt64) <<< ((48 : Int32) &&& 0x3f).toInt64)) ||| ((((own_at vs1 (p1.toNatClampNeg + 2)) &&& (255 : Int32)).toInt64) <<< ((40 : Int32) &&& 0x3f).toInt64)) ||| ((((own_at vs1 (p1.toNatClampNeg + 3)) &&& (255 : Int32)).toInt64) <<< ((32 : Int32) &&& 0x3f).toInt64)))]))
  refine ogo (fun t k => XS.bipush X0.here hx rfl (hb hby d2_63) k) ?_
  show OwnEnds _ _ _ _ _ _ _ (s₁.setTop (mkF m 65 #[.val (.ref a1), .val (.int p1)] [(.int (24 : Int32)), (.long (((own_at vs1 (p1.toNatClampNeg + 4)) &&& (255 : Int32)).toInt64)), (.long (((((((own_at vs1 (p1.toNatClampNeg + 0)) &&& (255 : Int32)).toInt64) <<< ((56 : Int32) &&& 0x3f).toInt64) ||| ((((own_at vs1 (p1.toNatClampNeg + 1)) &&& (255 : Int32)).toInt64) <<< ((48 : Int32) &&& 0x3f).toInt64)) ||| ((((own_at vs1 (p1.toNatClampNeg + 2)) &&& (255 : Int32)).toInt64) <<< ((40 : Int32) &&& 0x3f).toInt64)) ||| ((((own_at vs1 (p1.toNatClampNeg + 3)) &&& (255 : Int32)).toInt64) <<< ((32 : Int32) &&& 0x3f).toInt64)))]))
  refine ogo (fun t k => XS.lshl X0.here hx rfl (hb hby d2_65) rfl k) ?_
  show OwnEnds _ _ _ _ _ _ _ (s₁.setTop (mkF m 66 #[.val (.ref a1), .val (.int p1)] [(.long ((((own_at vs1 (p1.toNatClampNeg + 4)) &&& (255 : Int32)).toInt64) <<< ((24 : Int32) &&& 0x3f).toInt64)), (.long (((((((own_at vs1 (p1.toNatClampNeg + 0)) &&& (255 : Int32)).toInt64) <<< ((56 : Int32) &&& 0x3f).toInt64) ||| ((((own_at vs1 (p1.toNatClampNeg + 1)) &&& (255 : Int32)).toInt64) <<< ((48 : Int32) &&& 0x3f).toInt64)) ||| ((((own_at vs1 (p1.toNatClampNeg + 2)) &&& (255 : Int32)).toInt64) <<< ((40 : Int32) &&& 0x3f).toInt64)) ||| ((((own_at vs1 (p1.toNatClampNeg + 3)) &&& (255 : Int32)).toInt64) <<< ((32 : Int32) &&& 0x3f).toInt64)))]))
  refine ogo (fun t k => XS.lor X0.here hx rfl (hb hby d2_66) rfl k) ?_
  show OwnEnds _ _ _ _ _ _ _ (s₁.setTop (mkF m 67 #[.val (.ref a1), .val (.int p1)] [(.long ((((((((own_at vs1 (p1.toNatClampNeg + 0)) &&& (255 : Int32)).toInt64) <<< ((56 : Int32) &&& 0x3f).toInt64) ||| ((((own_at vs1 (p1.toNatClampNeg + 1)) &&& (255 : Int32)).toInt64) <<< ((48 : Int32) &&& 0x3f).toInt64)) ||| ((((own_at vs1 (p1.toNatClampNeg + 2)) &&& (255 : Int32)).toInt64) <<< ((40 : Int32) &&& 0x3f).toInt64)) ||| ((((own_at vs1 (p1.toNatClampNeg + 3)) &&& (255 : Int32)).toInt64) <<< ((32 : Int32) &&& 0x3f).toInt64)) ||| ((((own_at vs1 (p1.toNatClampNeg + 4)) &&& (255 : Int32)).toInt64) <<< ((24 : Int32) &&& 0x3f).toInt64)))]))
  refine ogo (fun t k => XS.aloadN X0.here hx rfl (hb hby d2_67) rfl rfl k) ?_
  show OwnEnds _ _ _ _ _ _ _ (s₁.setTop (mkF m 68 #[.val (.ref a1), .val (.int p1)] [(.ref a1), (.long ((((((((own_at vs1 (p1.toNatClampNeg + 0)) &&& (255 : Int32)).toInt64) <<< ((56 : Int32) &&& 0x3f).toInt64) ||| ((((own_at vs1 (p1.toNatClampNeg + 1)) &&& (255 : Int32)).toInt64) <<< ((48 : Int32) &&& 0x3f).toInt64)) ||| ((((own_at vs1 (p1.toNatClampNeg + 2)) &&& (255 : Int32)).toInt64) <<< ((40 : Int32) &&& 0x3f).toInt64)) ||| ((((own_at vs1 (p1.toNatClampNeg + 3)) &&& (255 : Int32)).toInt64) <<< ((32 : Int32) &&& 0x3f).toInt64)) ||| ((((own_at vs1 (p1.toNatClampNeg + 4)) &&& (255 : Int32)).toInt64) <<< ((24 : Int32) &&& 0x3f).toInt64)))]))
  refine ogo (fun t k => XS.iloadN X0.here hx rfl (hb hby d2_68) rfl k) ?_
  show OwnEnds _ _ _ _ _ _ _ (s₁.setTop (mkF m 69 #[.val (.ref a1), .val (.int p1)] [(.int p1), (.ref a1), (.long ((((((((own_at vs1 (p1.toNatClampNeg + 0)) &&& (255 : Int32)).toInt64) <<< ((56 : Int32) &&& 0x3f).toInt64) ||| ((((own_at vs1 (p1.toNatClampNeg + 1)) &&& (255 : Int32)).toInt64) <<< ((48 : Int32) &&& 0x3f).toInt64)) ||| ((((own_at vs1 (p1.toNatClampNeg + 2)) &&& (255 : Int32)).toInt64) <<< ((40 : Int32) &&& 0x3f).toInt64)) ||| ((((own_at vs1 (p1.toNatClampNeg + 3)) &&& (255 : Int32)).toInt64) <<< ((32 : Int32) &&& 0x3f).toInt64)) ||| ((((own_at vs1 (p1.toNatClampNeg + 4)) &&& (255 : Int32)).toInt64) <<< ((24 : Int32) &&& 0x3f).toInt64)))]))
  refine ogo (fun t k => XS.iconst X0.here hx rfl (hb hby d2_69) k) ?_
  show OwnEnds _ _ _ _ _ _ _ (s₁.setTop (mkF m 70 #[.val (.ref a1), .val (.int p1)] [(.int (5 : Int32)), (.int p1), (.ref a1), (.long ((((((((own_at vs1 (p1.toNatClampNeg + 0)) &&& (255 : Int32)).toInt64) <<< ((56 : Int32) &&& 0x3f).toInt64) ||| ((((own_at vs1 (p1.toNatClampNeg + 1)) &&& (255 : Int32)).toInt64) <<< ((48 : Int32) &&& 0x3f).toInt64)) ||| ((((own_at vs1 (p1.toNatClampNeg + 2)) &&& (255 : Int32)).toInt64) <<< ((40 : Int32) &&& 0x3f).toInt64)) ||| ((((own_at vs1 (p1.toNatClampNeg + 3)) &&& (255 : Int32)).toInt64) <<< ((32 : Int32) &&& 0x3f).toInt64)) ||| ((((own_at vs1 (p1.toNatClampNeg + 4)) &&& (255 : Int32)).toInt64) <<< ((24 : Int32) &&& 0x3f).toInt64)))]))
  refine ogo (fun t k => XS.iadd X0.here hx rfl (hb hby d2_70) rfl k) ?_
  show OwnEnds _ _ _ _ _ _ _ (s₁.setTop (mkF m 71 #[.val (.ref a1), .val (.int p1)] [(.int (p1 + (5 : Int32))), (.ref a1), (.long ((((((((own_at vs1 (p1.toNatClampNeg + 0)) &&& (255 : Int32)).toInt64) <<< ((56 : Int32) &&& 0x3f).toInt64) ||| ((((own_at vs1 (p1.toNatClampNeg + 1)) &&& (255 : Int32)).toInt64) <<< ((48 : Int32) &&& 0x3f).toInt64)) ||| ((((own_at vs1 (p1.toNatClampNeg + 2)) &&& (255 : Int32)).toInt64) <<< ((40 : Int32) &&& 0x3f).toInt64)) ||| ((((own_at vs1 (p1.toNatClampNeg + 3)) &&& (255 : Int32)).toInt64) <<< ((32 : Int32) &&& 0x3f).toInt64)) ||| ((((own_at vs1 (p1.toNatClampNeg + 4)) &&& (255 : Int32)).toInt64) <<< ((24 : Int32) &&& 0x3f).toInt64)))]))
  obtain ⟨ak6, cl6, Ar6, Aq6, As6, An6, Ah6, Ag6⟩ := id V_1
  refine ogo (fun t k => X0.baloadBytes hx (j := (p1 + (5 : Int32))) (v := (.int (own_at vs1 (p1.toNatClampNeg + 5)))) (by rw [e0]; exact Ar6.1) (State.isArrayOf_alike hZ.alike Ar6.2.1) Ar6.2.2 (inb_of As6 (own_ix ho 5 5 (by decide) (by decide)).1) (Ah6.at (inb_of As6 (own_ix ho 5 5 (by decide) (by decide)).1) (by rw [(own_ix ho 5 5 (by decide) (by decide)).2]; exact own_at_eq hv _)) (g := (mkF m 71 #[.val (.ref a1), .val (.int p1)] [(.int (p1 + (5 : Int32))), (.ref a1), (.long ((((((((own_at vs1 (p1.toNatClampNeg + 0)) &&& (255 : Int32)).toInt64) <<< ((56 : Int32) &&& 0x3f).toInt64) ||| ((((own_at vs1 (p1.toNatClampNeg + 1)) &&& (255 : Int32)).toInt64) <<< ((48 : Int32) &&& 0x3f).toInt64)) ||| ((((own_at vs1 (p1.toNatClampNeg + 2)) &&& (255 : Int32)).toInt64) <<< ((40 : Int32) &&& 0x3f).toInt64)) ||| ((((own_at vs1 (p1.toNatClampNeg + 3)) &&& (255 : Int32)).toInt64) <<< ((32 : Int32) &&& 0x3f).toInt64)) ||| ((((own_at vs1 (p1.toNatClampNeg + 4)) &&& (255 : Int32)).toInt64) <<< ((24 : Int32) &&& 0x3f).toInt64)))])) rfl rfl (hb hby d2_71) t k) ?_
  show OwnEnds _ _ _ _ _ _ _ (s₁.setTop (mkF m 72 #[.val (.ref a1), .val (.int p1)] [(.int (own_at vs1 (p1.toNatClampNeg + 5))), (.long ((((((((own_at vs1 (p1.toNatClampNeg + 0)) &&& (255 : Int32)).toInt64) <<< ((56 : Int32) &&& 0x3f).toInt64) ||| ((((own_at vs1 (p1.toNatClampNeg + 1)) &&& (255 : Int32)).toInt64) <<< ((48 : Int32) &&& 0x3f).toInt64)) ||| ((((own_at vs1 (p1.toNatClampNeg + 2)) &&& (255 : Int32)).toInt64) <<< ((40 : Int32) &&& 0x3f).toInt64)) ||| ((((own_at vs1 (p1.toNatClampNeg + 3)) &&& (255 : Int32)).toInt64) <<< ((32 : Int32) &&& 0x3f).toInt64)) ||| ((((own_at vs1 (p1.toNatClampNeg + 4)) &&& (255 : Int32)).toInt64) <<< ((24 : Int32) &&& 0x3f).toInt64)))]))
  refine ogo (fun t k => XS.sipush X0.here hx rfl (hb hby d2_72) k) ?_
  show OwnEnds _ _ _ _ _ _ _ (s₁.setTop (mkF m 75 #[.val (.ref a1), .val (.int p1)] [(.int (255 : Int32)), (.int (own_at vs1 (p1.toNatClampNeg + 5))), (.long ((((((((own_at vs1 (p1.toNatClampNeg + 0)) &&& (255 : Int32)).toInt64) <<< ((56 : Int32) &&& 0x3f).toInt64) ||| ((((own_at vs1 (p1.toNatClampNeg + 1)) &&& (255 : Int32)).toInt64) <<< ((48 : Int32) &&& 0x3f).toInt64)) ||| ((((own_at vs1 (p1.toNatClampNeg + 2)) &&& (255 : Int32)).toInt64) <<< ((40 : Int32) &&& 0x3f).toInt64)) ||| ((((own_at vs1 (p1.toNatClampNeg + 3)) &&& (255 : Int32)).toInt64) <<< ((32 : Int32) &&& 0x3f).toInt64)) ||| ((((own_at vs1 (p1.toNatClampNeg + 4)) &&& (255 : Int32)).toInt64) <<< ((24 : Int32) &&& 0x3f).toInt64)))]))
  refine ogo (fun t k => XS.iand X0.here hx rfl (hb hby d2_75) rfl k) ?_
  show OwnEnds _ _ _ _ _ _ _ (s₁.setTop (mkF m 76 #[.val (.ref a1), .val (.int p1)] [(.int ((own_at vs1 (p1.toNatClampNeg + 5)) &&& (255 : Int32))), (.long ((((((((own_at vs1 (p1.toNatClampNeg + 0)) &&& (255 : Int32)).toInt64) <<< ((56 : Int32) &&& 0x3f).toInt64) ||| ((((own_at vs1 (p1.toNatClampNeg + 1)) &&& (255 : Int32)).toInt64) <<< ((48 : Int32) &&& 0x3f).toInt64)) ||| ((((own_at vs1 (p1.toNatClampNeg + 2)) &&& (255 : Int32)).toInt64) <<< ((40 : Int32) &&& 0x3f).toInt64)) ||| ((((own_at vs1 (p1.toNatClampNeg + 3)) &&& (255 : Int32)).toInt64) <<< ((32 : Int32) &&& 0x3f).toInt64)) ||| ((((own_at vs1 (p1.toNatClampNeg + 4)) &&& (255 : Int32)).toInt64) <<< ((24 : Int32) &&& 0x3f).toInt64)))]))
  refine ogo (fun t k => XS.i2l X0.here hx rfl (hb hby d2_76) rfl k) ?_
  show OwnEnds _ _ _ _ _ _ _ (s₁.setTop (mkF m 77 #[.val (.ref a1), .val (.int p1)] [(.long (((own_at vs1 (p1.toNatClampNeg + 5)) &&& (255 : Int32)).toInt64)), (.long ((((((((own_at vs1 (p1.toNatClampNeg + 0)) &&& (255 : Int32)).toInt64) <<< ((56 : Int32) &&& 0x3f).toInt64) ||| ((((own_at vs1 (p1.toNatClampNeg + 1)) &&& (255 : Int32)).toInt64) <<< ((48 : Int32) &&& 0x3f).toInt64)) ||| ((((own_at vs1 (p1.toNatClampNeg + 2)) &&& (255 : Int32)).toInt64) <<< ((40 : Int32) &&& 0x3f).toInt64)) ||| ((((own_at vs1 (p1.toNatClampNeg + 3)) &&& (255 : Int32)).toInt64) <<< ((32 : Int32) &&& 0x3f).toInt64)) ||| ((((own_at vs1 (p1.toNatClampNeg + 4)) &&& (255 : Int32)).toInt64) <<< ((24 : Int32) &&& 0x3f).toInt64)))]))
  refine ogo (fun t k => XS.bipush X0.here hx rfl (hb hby d2_77) k) ?_
  show OwnEnds _ _ _ _ _ _ _ (s₁.setTop (mkF m 79 #[.val (.ref a1), .val (.int p1)] [(.int (16 : Int32)), (.long (((own_at vs1 (p1.toNatClampNeg + 5)) &&& (255 : Int32)).toInt64)), (.long ((((((((own_at vs1 (p1.toNatClampNeg + 0)) &&& (255 : Int32)).toInt64) <<< ((56 : Int32) &&& 0x3f).toInt64) ||| ((((own_at vs1 (p1.toNatClampNeg + 1)) &&& (255 : Int32)).toInt64) <<< ((48 : Int32) &&& 0x3f).toInt64)) ||| ((((own_at vs1 (p1.toNatClampNeg + 2)) &&& (255 : Int32)).toInt64) <<< ((40 : Int32) &&& 0x3f).toInt64)) ||| ((((own_at vs1 (p1.toNatClampNeg + 3)) &&& (255 : Int32)).toInt64) <<< ((32 : Int32) &&& 0x3f).toInt64)) ||| ((((own_at vs1 (p1.toNatClampNeg + 4)) &&& (255 : Int32)).toInt64) <<< ((24 : Int32) &&& 0x3f).toInt64)))]))
  refine ogo (fun t k => XS.lshl X0.here hx rfl (hb hby d2_79) rfl k) ?_
  show OwnEnds _ _ _ _ _ _ _ (s₁.setTop (mkF m 80 #[.val (.ref a1), .val (.int p1)] [(.long ((((own_at vs1 (p1.toNatClampNeg + 5)) &&& (255 : Int32)).toInt64) <<< ((16 : Int32) &&& 0x3f).toInt64)), (.long ((((((((own_at vs1 (p1.toNatClampNeg + 0)) &&& (255 : Int32)).toInt64) <<< ((56 : Int32) &&& 0x3f).toInt64) ||| ((((own_at vs1 (p1.toNatClampNeg + 1)) &&& (255 : Int32)).toInt64) <<< ((48 : Int32) &&& 0x3f).toInt64)) ||| ((((own_at vs1 (p1.toNatClampNeg + 2)) &&& (255 : Int32)).toInt64) <<< ((40 : Int32) &&& 0x3f).toInt64)) ||| ((((own_at vs1 (p1.toNatClampNeg + 3)) &&& (255 : Int32)).toInt64) <<< ((32 : Int32) &&& 0x3f).toInt64)) ||| ((((own_at vs1 (p1.toNatClampNeg + 4)) &&& (255 : Int32)).toInt64) <<< ((24 : Int32) &&& 0x3f).toInt64)))]))
  refine ogo (fun t k => XS.lor X0.here hx rfl (hb hby d2_80) rfl k) ?_
  show OwnEnds _ _ _ _ _ _ _ (s₁.setTop (mkF m 81 #[.val (.ref a1), .val (.int p1)] [(.long (((((((((own_at vs1 (p1.toNatClampNeg + 0)) &&& (255 : Int32)).toInt64) <<< ((56 : Int32) &&& 0x3f).toInt64) ||| ((((own_at vs1 (p1.toNatClampNeg + 1)) &&& (255 : Int32)).toInt64) <<< ((48 : Int32) &&& 0x3f).toInt64)) ||| ((((own_at vs1 (p1.toNatClampNeg + 2)) &&& (255 : Int32)).toInt64) <<< ((40 : Int32) &&& 0x3f).toInt64)) ||| ((((own_at vs1 (p1.toNatClampNeg + 3)) &&& (255 : Int32)).toInt64) <<< ((32 : Int32) &&& 0x3f).toInt64)) ||| ((((own_at vs1 (p1.toNatClampNeg + 4)) &&& (255 : Int32)).toInt64) <<< ((24 : Int32) &&& 0x3f).toInt64)) ||| ((((own_at vs1 (p1.toNatClampNeg + 5)) &&& (255 : Int32)).toInt64) <<< ((16 : Int32) &&& 0x3f).toInt64)))]))
  refine ogo (fun t k => XS.aloadN X0.here hx rfl (hb hby d2_81) rfl rfl k) ?_
  show OwnEnds _ _ _ _ _ _ _ (s₁.setTop (mkF m 82 #[.val (.ref a1), .val (.int p1)] [(.ref a1), (.long (((((((((own_at vs1 (p1.toNatClampNeg + 0)) &&& (255 : Int32)).toInt64) <<< ((56 : Int32) &&& 0x3f).toInt64) ||| ((((own_at vs1 (p1.toNatClampNeg + 1)) &&& (255 : Int32)).toInt64) <<< ((48 : Int32) &&& 0x3f).toInt64)) ||| ((((own_at vs1 (p1.toNatClampNeg + 2)) &&& (255 : Int32)).toInt64) <<< ((40 : Int32) &&& 0x3f).toInt64)) ||| ((((own_at vs1 (p1.toNatClampNeg + 3)) &&& (255 : Int32)).toInt64) <<< ((32 : Int32) &&& 0x3f).toInt64)) ||| ((((own_at vs1 (p1.toNatClampNeg + 4)) &&& (255 : Int32)).toInt64) <<< ((24 : Int32) &&& 0x3f).toInt64)) ||| ((((own_at vs1 (p1.toNatClampNeg + 5)) &&& (255 : Int32)).toInt64) <<< ((16 : Int32) &&& 0x3f).toInt64)))]))
  refine ogo (fun t k => XS.iloadN X0.here hx rfl (hb hby d2_82) rfl k) ?_
  show OwnEnds _ _ _ _ _ _ _ (s₁.setTop (mkF m 83 #[.val (.ref a1), .val (.int p1)] [(.int p1), (.ref a1), (.long (((((((((own_at vs1 (p1.toNatClampNeg + 0)) &&& (255 : Int32)).toInt64) <<< ((56 : Int32) &&& 0x3f).toInt64) ||| ((((own_at vs1 (p1.toNatClampNeg + 1)) &&& (255 : Int32)).toInt64) <<< ((48 : Int32) &&& 0x3f).toInt64)) ||| ((((own_at vs1 (p1.toNatClampNeg + 2)) &&& (255 : Int32)).toInt64) <<< ((40 : Int32) &&& 0x3f).toInt64)) ||| ((((own_at vs1 (p1.toNatClampNeg + 3)) &&& (255 : Int32)).toInt64) <<< ((32 : Int32) &&& 0x3f).toInt64)) ||| ((((own_at vs1 (p1.toNatClampNeg + 4)) &&& (255 : Int32)).toInt64) <<< ((24 : Int32) &&& 0x3f).toInt64)) ||| ((((own_at vs1 (p1.toNatClampNeg + 5)) &&& (255 : Int32)).toInt64) <<< ((16 : Int32) &&& 0x3f).toInt64)))]))
  refine ogo (fun t k => XS.bipush X0.here hx rfl (hb hby d2_83) k) ?_
  show OwnEnds _ _ _ _ _ _ _ (s₁.setTop (mkF m 85 #[.val (.ref a1), .val (.int p1)] [(.int (6 : Int32)), (.int p1), (.ref a1), (.long (((((((((own_at vs1 (p1.toNatClampNeg + 0)) &&& (255 : Int32)).toInt64) <<< ((56 : Int32) &&& 0x3f).toInt64) ||| ((((own_at vs1 (p1.toNatClampNeg + 1)) &&& (255 : Int32)).toInt64) <<< ((48 : Int32) &&& 0x3f).toInt64)) ||| ((((own_at vs1 (p1.toNatClampNeg + 2)) &&& (255 : Int32)).toInt64) <<< ((40 : Int32) &&& 0x3f).toInt64)) ||| ((((own_at vs1 (p1.toNatClampNeg + 3)) &&& (255 : Int32)).toInt64) <<< ((32 : Int32) &&& 0x3f).toInt64)) ||| ((((own_at vs1 (p1.toNatClampNeg + 4)) &&& (255 : Int32)).toInt64) <<< ((24 : Int32) &&& 0x3f).toInt64)) ||| ((((own_at vs1 (p1.toNatClampNeg + 5)) &&& (255 : Int32)).toInt64) <<< ((16 : Int32) &&& 0x3f).toInt64)))]))
  refine ogo (fun t k => XS.iadd X0.here hx rfl (hb hby d2_85) rfl k) ?_
  show OwnEnds _ _ _ _ _ _ _ (s₁.setTop (mkF m 86 #[.val (.ref a1), .val (.int p1)] [(.int (p1 + (6 : Int32))), (.ref a1), (.long (((((((((own_at vs1 (p1.toNatClampNeg + 0)) &&& (255 : Int32)).toInt64) <<< ((56 : Int32) &&& 0x3f).toInt64) ||| ((((own_at vs1 (p1.toNatClampNeg + 1)) &&& (255 : Int32)).toInt64) <<< ((48 : Int32) &&& 0x3f).toInt64)) ||| ((((own_at vs1 (p1.toNatClampNeg + 2)) &&& (255 : Int32)).toInt64) <<< ((40 : Int32) &&& 0x3f).toInt64)) ||| ((((own_at vs1 (p1.toNatClampNeg + 3)) &&& (255 : Int32)).toInt64) <<< ((32 : Int32) &&& 0x3f).toInt64)) ||| ((((own_at vs1 (p1.toNatClampNeg + 4)) &&& (255 : Int32)).toInt64) <<< ((24 : Int32) &&& 0x3f).toInt64)) ||| ((((own_at vs1 (p1.toNatClampNeg + 5)) &&& (255 : Int32)).toInt64) <<< ((16 : Int32) &&& 0x3f).toInt64)))]))
  obtain ⟨ak7, cl7, Ar7, Aq7, As7, An7, Ah7, Ag7⟩ := id V_1
  refine ogo (fun t k => X0.baloadBytes hx (j := (p1 + (6 : Int32))) (v := (.int (own_at vs1 (p1.toNatClampNeg + 6)))) (by rw [e0]; exact Ar7.1) (State.isArrayOf_alike hZ.alike Ar7.2.1) Ar7.2.2 (inb_of As7 (own_ix ho 6 6 (by decide) (by decide)).1) (Ah7.at (inb_of As7 (own_ix ho 6 6 (by decide) (by decide)).1) (by rw [(own_ix ho 6 6 (by decide) (by decide)).2]; exact own_at_eq hv _)) (g := (mkF m 86 #[.val (.ref a1), .val (.int p1)] [(.int (p1 + (6 : Int32))), (.ref a1), (.long (((((((((own_at vs1 (p1.toNatClampNeg + 0)) &&& (255 : Int32)).toInt64) <<< ((56 : Int32) &&& 0x3f).toInt64) ||| ((((own_at vs1 (p1.toNatClampNeg + 1)) &&& (255 : Int32)).toInt64) <<< ((48 : Int32) &&& 0x3f).toInt64)) ||| ((((own_at vs1 (p1.toNatClampNeg + 2)) &&& (255 : Int32)).toInt64) <<< ((40 : Int32) &&& 0x3f).toInt64)) ||| ((((own_at vs1 (p1.toNatClampNeg + 3)) &&& (255 : Int32)).toInt64) <<< ((32 : Int32) &&& 0x3f).toInt64)) ||| ((((own_at vs1 (p1.toNatClampNeg + 4)) &&& (255 : Int32)).toInt64) <<< ((24 : Int32) &&& 0x3f).toInt64)) ||| ((((own_at vs1 (p1.toNatClampNeg + 5)) &&& (255 : Int32)).toInt64) <<< ((16 : Int32) &&& 0x3f).toInt64)))])) rfl rfl (hb hby d2_86) t k) ?_
  show OwnEnds _ _ _ _ _ _ _ (s₁.setTop (mkF m 87 #[.val (.ref a1), .val (.int p1)] [(.int (own_at vs1 (p1.toNatClampNeg + 6))), (.long (((((((((own_at vs1 (p1.toNatClampNeg + 0)) &&& (255 : Int32)).toInt64) <<< ((56 : Int32) &&& 0x3f).toInt64) ||| ((((own_at vs1 (p1.toNatClampNeg + 1)) &&& (255 : Int32)).toInt64) <<< ((48 : Int32) &&& 0x3f).toInt64)) ||| ((((own_at vs1 (p1.toNatClampNeg + 2)) &&& (255 : Int32)).toInt64) <<< ((40 : Int32) &&& 0x3f).toInt64)) ||| ((((own_at vs1 (p1.toNatClampNeg + 3)) &&& (255 : Int32)).toInt64) <<< ((32 : Int32) &&& 0x3f).toInt64)) ||| ((((own_at vs1 (p1.toNatClampNeg + 4)) &&& (255 : Int32)).toInt64) <<< ((24 : Int32) &&& 0x3f).toInt64)) ||| ((((own_at vs1 (p1.toNatClampNeg + 5)) &&& (255 : Int32)).toInt64) <<< ((16 : Int32) &&& 0x3f).toInt64)))]))
  refine ogo (fun t k => XS.sipush X0.here hx rfl (hb hby d2_87) k) ?_
  show OwnEnds _ _ _ _ _ _ _ (s₁.setTop (mkF m 90 #[.val (.ref a1), .val (.int p1)] [(.int (255 : Int32)), (.int (own_at vs1 (p1.toNatClampNeg + 6))), (.long (((((((((own_at vs1 (p1.toNatClampNeg + 0)) &&& (255 : Int32)).toInt64) <<< ((56 : Int32) &&& 0x3f).toInt64) ||| ((((own_at vs1 (p1.toNatClampNeg + 1)) &&& (255 : Int32)).toInt64) <<< ((48 : Int32) &&& 0x3f).toInt64)) ||| ((((own_at vs1 (p1.toNatClampNeg + 2)) &&& (255 : Int32)).toInt64) <<< ((40 : Int32) &&& 0x3f).toInt64)) ||| ((((own_at vs1 (p1.toNatClampNeg + 3)) &&& (255 : Int32)).toInt64) <<< ((32 : Int32) &&& 0x3f).toInt64)) ||| ((((own_at vs1 (p1.toNatClampNeg + 4)) &&& (255 : Int32)).toInt64) <<< ((24 : Int32) &&& 0x3f).toInt64)) ||| ((((own_at vs1 (p1.toNatClampNeg + 5)) &&& (255 : Int32)).toInt64) <<< ((16 : Int32) &&& 0x3f).toInt64)))]))
  refine ogo (fun t k => XS.iand X0.here hx rfl (hb hby d2_90) rfl k) ?_
  show OwnEnds _ _ _ _ _ _ _ (s₁.setTop (mkF m 91 #[.val (.ref a1), .val (.int p1)] [(.int ((own_at vs1 (p1.toNatClampNeg + 6)) &&& (255 : Int32))), (.long (((((((((own_at vs1 (p1.toNatClampNeg + 0)) &&& (255 : Int32)).toInt64) <<< ((56 : Int32) &&& 0x3f).toInt64) ||| ((((own_at vs1 (p1.toNatClampNeg + 1)) &&& (255 : Int32)).toInt64) <<< ((48 : Int32) &&& 0x3f).toInt64)) ||| ((((own_at vs1 (p1.toNatClampNeg + 2)) &&& (255 : Int32)).toInt64) <<< ((40 : Int32) &&& 0x3f).toInt64)) ||| ((((own_at vs1 (p1.toNatClampNeg + 3)) &&& (255 : Int32)).toInt64) <<< ((32 : Int32) &&& 0x3f).toInt64)) ||| ((((own_at vs1 (p1.toNatClampNeg + 4)) &&& (255 : Int32)).toInt64) <<< ((24 : Int32) &&& 0x3f).toInt64)) ||| ((((own_at vs1 (p1.toNatClampNeg + 5)) &&& (255 : Int32)).toInt64) <<< ((16 : Int32) &&& 0x3f).toInt64)))]))
  refine ogo (fun t k => XS.i2l X0.here hx rfl (hb hby d2_91) rfl k) ?_
  show OwnEnds _ _ _ _ _ _ _ (s₁.setTop (mkF m 92 #[.val (.ref a1), .val (.int p1)] [(.long (((own_at vs1 (p1.toNatClampNeg + 6)) &&& (255 : Int32)).toInt64)), (.long (((((((((own_at vs1 (p1.toNatClampNeg + 0)) &&& (255 : Int32)).toInt64) <<< ((56 : Int32) &&& 0x3f).toInt64) ||| ((((own_at vs1 (p1.toNatClampNeg + 1)) &&& (255 : Int32)).toInt64) <<< ((48 : Int32) &&& 0x3f).toInt64)) ||| ((((own_at vs1 (p1.toNatClampNeg + 2)) &&& (255 : Int32)).toInt64) <<< ((40 : Int32) &&& 0x3f).toInt64)) ||| ((((own_at vs1 (p1.toNatClampNeg + 3)) &&& (255 : Int32)).toInt64) <<< ((32 : Int32) &&& 0x3f).toInt64)) ||| ((((own_at vs1 (p1.toNatClampNeg + 4)) &&& (255 : Int32)).toInt64) <<< ((24 : Int32) &&& 0x3f).toInt64)) ||| ((((own_at vs1 (p1.toNatClampNeg + 5)) &&& (255 : Int32)).toInt64) <<< ((16 : Int32) &&& 0x3f).toInt64)))]))
  refine ogo (fun t k => XS.bipush X0.here hx rfl (hb hby d2_92) k) ?_
  show OwnEnds _ _ _ _ _ _ _ (s₁.setTop (mkF m 94 #[.val (.ref a1), .val (.int p1)] [(.int (8 : Int32)), (.long (((own_at vs1 (p1.toNatClampNeg + 6)) &&& (255 : Int32)).toInt64)), (.long (((((((((own_at vs1 (p1.toNatClampNeg + 0)) &&& (255 : Int32)).toInt64) <<< ((56 : Int32) &&& 0x3f).toInt64) ||| ((((own_at vs1 (p1.toNatClampNeg + 1)) &&& (255 : Int32)).toInt64) <<< ((48 : Int32) &&& 0x3f).toInt64)) ||| ((((own_at vs1 (p1.toNatClampNeg + 2)) &&& (255 : Int32)).toInt64) <<< ((40 : Int32) &&& 0x3f).toInt64)) ||| ((((own_at vs1 (p1.toNatClampNeg + 3)) &&& (255 : Int32)).toInt64) <<< ((32 : Int32) &&& 0x3f).toInt64)) ||| ((((own_at vs1 (p1.toNatClampNeg + 4)) &&& (255 : Int32)).toInt64) <<< ((24 : Int32) &&& 0x3f).toInt64)) ||| ((((own_at vs1 (p1.toNatClampNeg + 5)) &&& (255 : Int32)).toInt64) <<< ((16 : Int32) &&& 0x3f).toInt64)))]))
  refine ogo (fun t k => XS.lshl X0.here hx rfl (hb hby d2_94) rfl k) ?_
  show OwnEnds _ _ _ _ _ _ _ (s₁.setTop (mkF m 95 #[.val (.ref a1), .val (.int p1)] [(.long ((((own_at vs1 (p1.toNatClampNeg + 6)) &&& (255 : Int32)).toInt64) <<< ((8 : Int32) &&& 0x3f).toInt64)), (.long (((((((((own_at vs1 (p1.toNatClampNeg + 0)) &&& (255 : Int32)).toInt64) <<< ((56 : Int32) &&& 0x3f).toInt64) ||| ((((own_at vs1 (p1.toNatClampNeg + 1)) &&& (255 : Int32)).toInt64) <<< ((48 : Int32) &&& 0x3f).toInt64)) ||| ((((own_at vs1 (p1.toNatClampNeg + 2)) &&& (255 : Int32)).toInt64) <<< ((40 : Int32) &&& 0x3f).toInt64)) ||| ((((own_at vs1 (p1.toNatClampNeg + 3)) &&& (255 : Int32)).toInt64) <<< ((32 : Int32) &&& 0x3f).toInt64)) ||| ((((own_at vs1 (p1.toNatClampNeg + 4)) &&& (255 : Int32)).toInt64) <<< ((24 : Int32) &&& 0x3f).toInt64)) ||| ((((own_at vs1 (p1.toNatClampNeg + 5)) &&& (255 : Int32)).toInt64) <<< ((16 : Int32) &&& 0x3f).toInt64)))]))
  refine ogo (fun t k => XS.lor X0.here hx rfl (hb hby d2_95) rfl k) ?_
  show OwnEnds _ _ _ _ _ _ _ (s₁.setTop (mkF m 96 #[.val (.ref a1), .val (.int p1)] [(.long ((((((((((own_at vs1 (p1.toNatClampNeg + 0)) &&& (255 : Int32)).toInt64) <<< ((56 : Int32) &&& 0x3f).toInt64) ||| ((((own_at vs1 (p1.toNatClampNeg + 1)) &&& (255 : Int32)).toInt64) <<< ((48 : Int32) &&& 0x3f).toInt64)) ||| ((((own_at vs1 (p1.toNatClampNeg + 2)) &&& (255 : Int32)).toInt64) <<< ((40 : Int32) &&& 0x3f).toInt64)) ||| ((((own_at vs1 (p1.toNatClampNeg + 3)) &&& (255 : Int32)).toInt64) <<< ((32 : Int32) &&& 0x3f).toInt64)) ||| ((((own_at vs1 (p1.toNatClampNeg + 4)) &&& (255 : Int32)).toInt64) <<< ((24 : Int32) &&& 0x3f).toInt64)) ||| ((((own_at vs1 (p1.toNatClampNeg + 5)) &&& (255 : Int32)).toInt64) <<< ((16 : Int32) &&& 0x3f).toInt64)) ||| ((((own_at vs1 (p1.toNatClampNeg + 6)) &&& (255 : Int32)).toInt64) <<< ((8 : Int32) &&& 0x3f).toInt64)))]))
  refine ogo (fun t k => XS.aloadN X0.here hx rfl (hb hby d2_96) rfl rfl k) ?_
  show OwnEnds _ _ _ _ _ _ _ (s₁.setTop (mkF m 97 #[.val (.ref a1), .val (.int p1)] [(.ref a1), (.long ((((((((((own_at vs1 (p1.toNatClampNeg + 0)) &&& (255 : Int32)).toInt64) <<< ((56 : Int32) &&& 0x3f).toInt64) ||| ((((own_at vs1 (p1.toNatClampNeg + 1)) &&& (255 : Int32)).toInt64) <<< ((48 : Int32) &&& 0x3f).toInt64)) ||| ((((own_at vs1 (p1.toNatClampNeg + 2)) &&& (255 : Int32)).toInt64) <<< ((40 : Int32) &&& 0x3f).toInt64)) ||| ((((own_at vs1 (p1.toNatClampNeg + 3)) &&& (255 : Int32)).toInt64) <<< ((32 : Int32) &&& 0x3f).toInt64)) ||| ((((own_at vs1 (p1.toNatClampNeg + 4)) &&& (255 : Int32)).toInt64) <<< ((24 : Int32) &&& 0x3f).toInt64)) ||| ((((own_at vs1 (p1.toNatClampNeg + 5)) &&& (255 : Int32)).toInt64) <<< ((16 : Int32) &&& 0x3f).toInt64)) ||| ((((own_at vs1 (p1.toNatClampNeg + 6)) &&& (255 : Int32)).toInt64) <<< ((8 : Int32) &&& 0x3f).toInt64)))]))
  refine ogo (fun t k => XS.iloadN X0.here hx rfl (hb hby d2_97) rfl k) ?_
  show OwnEnds _ _ _ _ _ _ _ (s₁.setTop (mkF m 98 #[.val (.ref a1), .val (.int p1)] [(.int p1), (.ref a1), (.long ((((((((((own_at vs1 (p1.toNatClampNeg + 0)) &&& (255 : Int32)).toInt64) <<< ((56 : Int32) &&& 0x3f).toInt64) ||| ((((own_at vs1 (p1.toNatClampNeg + 1)) &&& (255 : Int32)).toInt64) <<< ((48 : Int32) &&& 0x3f).toInt64)) ||| ((((own_at vs1 (p1.toNatClampNeg + 2)) &&& (255 : Int32)).toInt64) <<< ((40 : Int32) &&& 0x3f).toInt64)) ||| ((((own_at vs1 (p1.toNatClampNeg + 3)) &&& (255 : Int32)).toInt64) <<< ((32 : Int32) &&& 0x3f).toInt64)) ||| ((((own_at vs1 (p1.toNatClampNeg + 4)) &&& (255 : Int32)).toInt64) <<< ((24 : Int32) &&& 0x3f).toInt64)) ||| ((((own_at vs1 (p1.toNatClampNeg + 5)) &&& (255 : Int32)).toInt64) <<< ((16 : Int32) &&& 0x3f).toInt64)) ||| ((((own_at vs1 (p1.toNatClampNeg + 6)) &&& (255 : Int32)).toInt64) <<< ((8 : Int32) &&& 0x3f).toInt64)))]))
  refine ogo (fun t k => XS.bipush X0.here hx rfl (hb hby d2_98) k) ?_
  show OwnEnds _ _ _ _ _ _ _ (s₁.setTop (mkF m 100 #[.val (.ref a1), .val (.int p1)] [(.int (7 : Int32)), (.int p1), (.ref a1), (.long ((((((((((own_at vs1 (p1.toNatClampNeg + 0)) &&& (255 : Int32)).toInt64) <<< ((56 : Int32) &&& 0x3f).toInt64) ||| ((((own_at vs1 (p1.toNatClampNeg + 1)) &&& (255 : Int32)).toInt64) <<< ((48 : Int32) &&& 0x3f).toInt64)) ||| ((((own_at vs1 (p1.toNatClampNeg + 2)) &&& (255 : Int32)).toInt64) <<< ((40 : Int32) &&& 0x3f).toInt64)) ||| ((((own_at vs1 (p1.toNatClampNeg + 3)) &&& (255 : Int32)).toInt64) <<< ((32 : Int32) &&& 0x3f).toInt64)) ||| ((((own_at vs1 (p1.toNatClampNeg + 4)) &&& (255 : Int32)).toInt64) <<< ((24 : Int32) &&& 0x3f).toInt64)) ||| ((((own_at vs1 (p1.toNatClampNeg + 5)) &&& (255 : Int32)).toInt64) <<< ((16 : Int32) &&& 0x3f).toInt64)) ||| ((((own_at vs1 (p1.toNatClampNeg + 6)) &&& (255 : Int32)).toInt64) <<< ((8 : Int32) &&& 0x3f).toInt64)))]))
  refine ogo (fun t k => XS.iadd X0.here hx rfl (hb hby d2_100) rfl k) ?_
  show OwnEnds _ _ _ _ _ _ _ (s₁.setTop (mkF m 101 #[.val (.ref a1), .val (.int p1)] [(.int (p1 + (7 : Int32))), (.ref a1), (.long ((((((((((own_at vs1 (p1.toNatClampNeg + 0)) &&& (255 : Int32)).toInt64) <<< ((56 : Int32) &&& 0x3f).toInt64) ||| ((((own_at vs1 (p1.toNatClampNeg + 1)) &&& (255 : Int32)).toInt64) <<< ((48 : Int32) &&& 0x3f).toInt64)) ||| ((((own_at vs1 (p1.toNatClampNeg + 2)) &&& (255 : Int32)).toInt64) <<< ((40 : Int32) &&& 0x3f).toInt64)) ||| ((((own_at vs1 (p1.toNatClampNeg + 3)) &&& (255 : Int32)).toInt64) <<< ((32 : Int32) &&& 0x3f).toInt64)) ||| ((((own_at vs1 (p1.toNatClampNeg + 4)) &&& (255 : Int32)).toInt64) <<< ((24 : Int32) &&& 0x3f).toInt64)) ||| ((((own_at vs1 (p1.toNatClampNeg + 5)) &&& (255 : Int32)).toInt64) <<< ((16 : Int32) &&& 0x3f).toInt64)) ||| ((((own_at vs1 (p1.toNatClampNeg + 6)) &&& (255 : Int32)).toInt64) <<< ((8 : Int32) &&& 0x3f).toInt64)))]))
  obtain ⟨ak8, cl8, Ar8, Aq8, As8, An8, Ah8, Ag8⟩ := id V_1
  refine ogo (fun t k => X0.baloadBytes hx (j := (p1 + (7 : Int32))) (v := (.int (own_at vs1 (p1.toNatClampNeg + 7)))) (by rw [e0]; exact Ar8.1) (State.isArrayOf_alike hZ.alike Ar8.2.1) Ar8.2.2 (inb_of As8 (own_ix ho 7 7 (by decide) (by decide)).1) (Ah8.at (inb_of As8 (own_ix ho 7 7 (by decide) (by decide)).1) (by rw [(own_ix ho 7 7 (by decide) (by decide)).2]; exact own_at_eq hv _)) (g := (mkF m 101 #[.val (.ref a1), .val (.int p1)] [(.int (p1 + (7 : Int32))), (.ref a1), (.long ((((((((((own_at vs1 (p1.toNatClampNeg + 0)) &&& (255 : Int32)).toInt64) <<< ((56 : Int32) &&& 0x3f).toInt64) ||| ((((own_at vs1 (p1.toNatClampNeg + 1)) &&& (255 : Int32)).toInt64) <<< ((48 : Int32) &&& 0x3f).toInt64)) ||| ((((own_at vs1 (p1.toNatClampNeg + 2)) &&& (255 : Int32)).toInt64) <<< ((40 : Int32) &&& 0x3f).toInt64)) ||| ((((own_at vs1 (p1.toNatClampNeg + 3)) &&& (255 : Int32)).toInt64) <<< ((32 : Int32) &&& 0x3f).toInt64)) ||| ((((own_at vs1 (p1.toNatClampNeg + 4)) &&& (255 : Int32)).toInt64) <<< ((24 : Int32) &&& 0x3f).toInt64)) ||| ((((own_at vs1 (p1.toNatClampNeg + 5)) &&& (255 : Int32)).toInt64) <<< ((16 : Int32) &&& 0x3f).toInt64)) ||| ((((own_at vs1 (p1.toNatClampNeg + 6)) &&& (255 : Int32)).toInt64) <<< ((8 : Int32) &&& 0x3f).toInt64)))])) rfl rfl (hb hby d2_101) t k) ?_
  show OwnEnds _ _ _ _ _ _ _ (s₁.setTop (mkF m 102 #[.val (.ref a1), .val (.int p1)] [(.int (own_at vs1 (p1.toNatClampNeg + 7))), (.long ((((((((((own_at vs1 (p1.toNatClampNeg + 0)) &&& (255 : Int32)).toInt64) <<< ((56 : Int32) &&& 0x3f).toInt64) ||| ((((own_at vs1 (p1.toNatClampNeg + 1)) &&& (255 : Int32)).toInt64) <<< ((48 : Int32) &&& 0x3f).toInt64)) ||| ((((own_at vs1 (p1.toNatClampNeg + 2)) &&& (255 : Int32)).toInt64) <<< ((40 : Int32) &&& 0x3f).toInt64)) ||| ((((own_at vs1 (p1.toNatClampNeg + 3)) &&& (255 : Int32)).toInt64) <<< ((32 : Int32) &&& 0x3f).toInt64)) ||| ((((own_at vs1 (p1.toNatClampNeg + 4)) &&& (255 : Int32)).toInt64) <<< ((24 : Int32) &&& 0x3f).toInt64)) ||| ((((own_at vs1 (p1.toNatClampNeg + 5)) &&& (255 : Int32)).toInt64) <<< ((16 : Int32) &&& 0x3f).toInt64)) ||| ((((own_at vs1 (p1.toNatClampNeg + 6)) &&& (255 : Int32)).toInt64) <<< ((8 : Int32) &&& 0x3f).toInt64)))]))
  refine ogo (fun t k => XS.sipush X0.here hx rfl (hb hby d2_102) k) ?_
  show OwnEnds _ _ _ _ _ _ _ (s₁.setTop (mkF m 105 #[.val (.ref a1), .val (.int p1)] [(.int (255 : Int32)), (.int (own_at vs1 (p1.toNatClampNeg + 7))), (.long ((((((((((own_at vs1 (p1.toNatClampNeg + 0)) &&& (255 : Int32)).toInt64) <<< ((56 : Int32) &&& 0x3f).toInt64) ||| ((((own_at vs1 (p1.toNatClampNeg + 1)) &&& (255 : Int32)).toInt64) <<< ((48 : Int32) &&& 0x3f).toInt64)) ||| ((((own_at vs1 (p1.toNatClampNeg + 2)) &&& (255 : Int32)).toInt64) <<< ((40 : Int32) &&& 0x3f).toInt64)) ||| ((((own_at vs1 (p1.toNatClampNeg + 3)) &&& (255 : Int32)).toInt64) <<< ((32 : Int32) &&& 0x3f).toInt64)) ||| ((((own_at vs1 (p1.toNatClampNeg + 4)) &&& (255 : Int32)).toInt64) <<< ((24 : Int32) &&& 0x3f).toInt64)) ||| ((((own_at vs1 (p1.toNatClampNeg + 5)) &&& (255 : Int32)).toInt64) <<< ((16 : Int32) &&& 0x3f).toInt64)) ||| ((((own_at vs1 (p1.toNatClampNeg + 6)) &&& (255 : Int32)).toInt64) <<< ((8 : Int32) &&& 0x3f).toInt64)))]))
  refine ogo (fun t k => XS.iand X0.here hx rfl (hb hby d2_105) rfl k) ?_
  show OwnEnds _ _ _ _ _ _ _ (s₁.setTop (mkF m 106 #[.val (.ref a1), .val (.int p1)] [(.int ((own_at vs1 (p1.toNatClampNeg + 7)) &&& (255 : Int32))), (.long ((((((((((own_at vs1 (p1.toNatClampNeg + 0)) &&& (255 : Int32)).toInt64) <<< ((56 : Int32) &&& 0x3f).toInt64) ||| ((((own_at vs1 (p1.toNatClampNeg + 1)) &&& (255 : Int32)).toInt64) <<< ((48 : Int32) &&& 0x3f).toInt64)) ||| ((((own_at vs1 (p1.toNatClampNeg + 2)) &&& (255 : Int32)).toInt64) <<< ((40 : Int32) &&& 0x3f).toInt64)) ||| ((((own_at vs1 (p1.toNatClampNeg + 3)) &&& (255 : Int32)).toInt64) <<< ((32 : Int32) &&& 0x3f).toInt64)) ||| ((((own_at vs1 (p1.toNatClampNeg + 4)) &&& (255 : Int32)).toInt64) <<< ((24 : Int32) &&& 0x3f).toInt64)) ||| ((((own_at vs1 (p1.toNatClampNeg + 5)) &&& (255 : Int32)).toInt64) <<< ((16 : Int32) &&& 0x3f).toInt64)) ||| ((((own_at vs1 (p1.toNatClampNeg + 6)) &&& (255 : Int32)).toInt64) <<< ((8 : Int32) &&& 0x3f).toInt64)))]))
  refine ogo (fun t k => XS.i2l X0.here hx rfl (hb hby d2_106) rfl k) ?_
  show OwnEnds _ _ _ _ _ _ _ (s₁.setTop (mkF m 107 #[.val (.ref a1), .val (.int p1)] [(.long (((own_at vs1 (p1.toNatClampNeg + 7)) &&& (255 : Int32)).toInt64)), (.long ((((((((((own_at vs1 (p1.toNatClampNeg + 0)) &&& (255 : Int32)).toInt64) <<< ((56 : Int32) &&& 0x3f).toInt64) ||| ((((own_at vs1 (p1.toNatClampNeg + 1)) &&& (255 : Int32)).toInt64) <<< ((48 : Int32) &&& 0x3f).toInt64)) ||| ((((own_at vs1 (p1.toNatClampNeg + 2)) &&& (255 : Int32)).toInt64) <<< ((40 : Int32) &&& 0x3f).toInt64)) ||| ((((own_at vs1 (p1.toNatClampNeg + 3)) &&& (255 : Int32)).toInt64) <<< ((32 : Int32) &&& 0x3f).toInt64)) ||| ((((own_at vs1 (p1.toNatClampNeg + 4)) &&& (255 : Int32)).toInt64) <<< ((24 : Int32) &&& 0x3f).toInt64)) ||| ((((own_at vs1 (p1.toNatClampNeg + 5)) &&& (255 : Int32)).toInt64) <<< ((16 : Int32) &&& 0x3f).toInt64)) ||| ((((own_at vs1 (p1.toNatClampNeg + 6)) &&& (255 : Int32)).toInt64) <<< ((8 : Int32) &&& 0x3f).toInt64)))]))
  refine ogo (fun t k => XS.lor X0.here hx rfl (hb hby d2_107) rfl k) ?_
  show OwnEnds _ _ _ _ _ _ _ (s₁.setTop (mkF m 108 #[.val (.ref a1), .val (.int p1)] [(.long (((((((((((own_at vs1 (p1.toNatClampNeg + 0)) &&& (255 : Int32)).toInt64) <<< ((56 : Int32) &&& 0x3f).toInt64) ||| ((((own_at vs1 (p1.toNatClampNeg + 1)) &&& (255 : Int32)).toInt64) <<< ((48 : Int32) &&& 0x3f).toInt64)) ||| ((((own_at vs1 (p1.toNatClampNeg + 2)) &&& (255 : Int32)).toInt64) <<< ((40 : Int32) &&& 0x3f).toInt64)) ||| ((((own_at vs1 (p1.toNatClampNeg + 3)) &&& (255 : Int32)).toInt64) <<< ((32 : Int32) &&& 0x3f).toInt64)) ||| ((((own_at vs1 (p1.toNatClampNeg + 4)) &&& (255 : Int32)).toInt64) <<< ((24 : Int32) &&& 0x3f).toInt64)) ||| ((((own_at vs1 (p1.toNatClampNeg + 5)) &&& (255 : Int32)).toInt64) <<< ((16 : Int32) &&& 0x3f).toInt64)) ||| ((((own_at vs1 (p1.toNatClampNeg + 6)) &&& (255 : Int32)).toInt64) <<< ((8 : Int32) &&& 0x3f).toInt64)) ||| (((own_at vs1 (p1.toNatClampNeg + 7)) &&& (255 : Int32)).toInt64)))]))
  refine endJ X0 hx hlk hret (hb hby d2_108) (by decide) (by decide) ?_
  show Q2 Z a1 p1 vs1 h0 n0 _ s₁.heap _
  rw [e0]
  exact ⟨rfl, N0, rfl⟩
theorem d3_0 : decode method_4_code 0 = .ok (.aload_n 0, 1) := by decide +kernel
theorem d3_1 : decode method_4_code 1 = .ok (.arraylength, 1) := by decide +kernel
theorem d3_2 : decode method_4_code 2 = .ok (.bipush 48, 2) := by decide +kernel
theorem d3_4 : decode method_4_code 4 = .ok (.if_icmp .ne 76, 3) := by decide +kernel
theorem d3_7 : decode method_4_code 7 = .ok (.aload_n 0, 1) := by decide +kernel
theorem d3_8 : decode method_4_code 8 = .ok (.iconst 0, 1) := by decide +kernel
theorem d3_9 : decode method_4_code 9 = .ok (.invokestatic 7, 3) := by decide +kernel
theorem d3_12 : decode method_4_code 12 = .ok (.lload_n 1, 1) := by decide +kernel
theorem d3_13 : decode method_4_code 13 = .ok (.lcmp, 1) := by decide +kernel
theorem d3_14 : decode method_4_code 14 = .ok (.ifCond .ne 66, 3) := by decide +kernel
theorem d3_17 : decode method_4_code 17 = .ok (.aload_n 0, 1) := by decide +kernel
theorem d3_18 : decode method_4_code 18 = .ok (.bipush 8, 2) := by decide +kernel
theorem d3_20 : decode method_4_code 20 = .ok (.invokestatic 7, 3) := by decide +kernel
theorem d3_23 : decode method_4_code 23 = .ok (.lload_n 3, 1) := by decide +kernel
theorem d3_24 : decode method_4_code 24 = .ok (.lcmp, 1) := by decide +kernel
theorem d3_25 : decode method_4_code 25 = .ok (.ifCond .ne 55, 3) := by decide +kernel
theorem d3_28 : decode method_4_code 28 = .ok (.aload_n 0, 1) := by decide +kernel
theorem d3_29 : decode method_4_code 29 = .ok (.bipush 16, 2) := by decide +kernel
theorem d3_31 : decode method_4_code 31 = .ok (.invokestatic 7, 3) := by decide +kernel
theorem d3_34 : decode method_4_code 34 = .ok (.lload 5, 2) := by decide +kernel
theorem d3_36 : decode method_4_code 36 = .ok (.lcmp, 1) := by decide +kernel
theorem d3_37 : decode method_4_code 37 = .ok (.ifCond .ne 43, 3) := by decide +kernel
theorem d3_40 : decode method_4_code 40 = .ok (.aload_n 0, 1) := by decide +kernel
theorem d3_41 : decode method_4_code 41 = .ok (.bipush 24, 2) := by decide +kernel
theorem d3_43 : decode method_4_code 43 = .ok (.invokestatic 7, 3) := by decide +kernel
theorem d3_46 : decode method_4_code 46 = .ok (.lload 7, 2) := by decide +kernel
theorem d3_48 : decode method_4_code 48 = .ok (.lcmp, 1) := by decide +kernel
theorem d3_49 : decode method_4_code 49 = .ok (.ifCond .ne 31, 3) := by decide +kernel
theorem d3_52 : decode method_4_code 52 = .ok (.aload_n 0, 1) := by decide +kernel
theorem d3_53 : decode method_4_code 53 = .ok (.bipush 32, 2) := by decide +kernel
theorem d3_55 : decode method_4_code 55 = .ok (.invokestatic 7, 3) := by decide +kernel
theorem d3_58 : decode method_4_code 58 = .ok (.lload 9, 2) := by decide +kernel
theorem d3_60 : decode method_4_code 60 = .ok (.lcmp, 1) := by decide +kernel
theorem d3_61 : decode method_4_code 61 = .ok (.ifCond .ne 19, 3) := by decide +kernel
theorem d3_64 : decode method_4_code 64 = .ok (.aload_n 0, 1) := by decide +kernel
theorem d3_65 : decode method_4_code 65 = .ok (.bipush 40, 2) := by decide +kernel
theorem d3_67 : decode method_4_code 67 = .ok (.invokestatic 7, 3) := by decide +kernel
theorem d3_70 : decode method_4_code 70 = .ok (.lload 11, 2) := by decide +kernel
theorem d3_72 : decode method_4_code 72 = .ok (.lcmp, 1) := by decide +kernel
theorem d3_73 : decode method_4_code 73 = .ok (.ifCond .ne 7, 3) := by decide +kernel
theorem d3_76 : decode method_4_code 76 = .ok (.iconst 1, 1) := by decide +kernel
theorem d3_77 : decode method_4_code 77 = .ok (.goto 4, 3) := by decide +kernel
theorem d3_81 : decode method_4_code 81 = .ok (.ireturn, 1) := by decide +kernel
theorem pd___BI_J : parseMethodDescriptor "([BI)J" = some ⟨[(.array .byte), .int], some .long⟩ := by decide +kernel
theorem ef_3 (m : MethodId) (x0 : Addr) (x1 : Int64) (x2 : Int64) (x3 : Int64) (x4 : Int64) (x5 : Int64) (x6 : Int64) : entryFrame m #[(.ref x0), (.long x1), (.long x2), (.long x3), (.long x4), (.long x5), (.long x6)] 13 = mkF m 0 #[.val (.ref x0), .val (.long x1), .second, .val (.long x2), .second, .val (.long x3), .second, .val (.long x4), .second, .val (.long x5), .second, .val (.long x6), .second] [] := by first | (simp [entryFrame, mkF, argsToLocals, Value.category]; done) | rfl
def Q3 (Z : State) (a1 : Addr) (qa qb qc qd qe qf : Int64) (vs1 : List Value) (h0 : Heap) (n0 : Nat) (v : Option Value) (h : Heap) (L : List Loc) : Prop := v = some (.int 1) ∧ Fr n0 L ∧ h = h0
set_option maxRecDepth 65536 in
set_option maxHeartbeats 40000000 in
theorem rm3 (l : Launch) (Z : State) (a0 : Array Value) (hw : ∀ d ∈ tables_1, d.before a0 Z = true) (ws : List Jvm.Cond) (a1 : Addr) (qa qb qc qd qe qf : Int64) (vs1 : List Value) (h0 : Heap) (n0 : Nat) (Z0 : n0 ≤ h0.size) (V_1 : Av Z h0 a1 .byte (48 : Int32) vs1 (.int (0 : Int32))) (hv : IntsL vs1) (hg0 : own_get vs1 0 = qa) (hg1 : own_get vs1 8 = qb) (hg2 : own_get vs1 16 = qc) (hg3 : own_get vs1 24 = qd) (hg4 : own_get vs1 32 = qe) (hg5 : own_get vs1 40 = qf) :
    MetFree l (⟨"com/example/opaque_token/opaquetoken/token/PinHashOfStoredPinLaw", "same", "([BJJJJJJ)Z"⟩ : MethodName) (head1 (Jvm.Cond.code (⟨"com/example/opaque_token/opaquetoken/token/PinHashOfStoredPinLaw", "same", "([BJJJJJJ)Z"⟩ : MethodName) method_4_code 13 (some .boolean) :: ws) ({ frames := 1, cells := 0, slots := 0, locals := 13 } : Room)) (fun a U => a = #[(.ref a1), (.long qa), (.long qb), (.long qc), (.long qd), (.long qe), (.long qf)] ∧ Z.Warmed39 U.vm ∧ U.heap = h0) (fun _ _ _ _ _ => True) (fun _ U o U' => ∃ v L, o = .returned v ∧ Q3 Z a1 qa qb qc qd qe qf vs1 h0 n0 v U'.heap L ∧ FrameEnd U o U' L ({ frames := 1, cells := 0, slots := 0, locals := 13 } : Room).cells ({ frames := 1, cells := 0, slots := 0, locals := 13 } : Room).slots) := by
  refine MetFree.of_bodySF (plainFor_of_name pn_PinHashOfStoredPinLaw) hisR ?_
  intro p e s m args below meth c s₁ Bd hml0 hP hK
  obtain ⟨rfl, hZ, hh⟩ := hP
  have hx := Bd.exec
  have hby := Bd.bytes
  have hml : c.maxLocals = 13 := hml0
  have hown : s.vm.findClass "com/example/opaque_token/opaquetoken/token/PinHashOfStoredPinLaw" = some m.cls := findClass_of_methodNamed Bd.named
  have hnm := (name_of_methodNamed Bd.named Bd.method).1
  have hlk : meth.locks = false := BodyLoose.notSynchronized Bd
  have hret := Bd.returns
  have X0 : Stand p l e ({ frames := 1, cells := 0, slots := 0, locals := 13 } : Room) s m #[(.ref a1), (.long qa), (.long qb), (.long qc), (.long qd), (.long qe), (.long qf)] below meth c s₁ [] 0 0 := Stand.of_body Bd
  have e0 : s₁.heap = h0 := by rw [← hh, Bd.state]; rfl
  have N0 := Fr.nil n0
  refine ogo (U' := s₁.setTop (mkF m 0 #[.val (.ref a1), .val (.long qa), .second, .val (.long qb), .second, .val (.long qc), .second, .val (.long qd), .second, .val (.long qe), .second, .val (.long qf), .second] [])) (Q := Q3 Z a1 qa qb qc qd qe qf vs1 h0 n0) (K := ({ frames := 1, cells := 0, slots := 0, locals := 13 } : Room).cells) (N := ({ frames := 1, cells := 0, slots := 0, locals := 13 } : Room).slots) (fun t k => castTop (ef_3 m a1 qa qb qc qd qe qf) k) ?_
  show OwnEnds _ _ _ _ _ _ _ (s₁.setTop (mkF m 0 #[.val (.ref a1), .val (.long qa), .second, .val (.long qb), .second, .val (.long qc), .second, .val (.long qd), .second, .val (.long qe), .second, .val (.long qf), .second] []))
  refine ogo (fun t k => XS.aloadN X0.here hx rfl (hb hby d3_0) rfl rfl k) ?_
  show OwnEnds _ _ _ _ _ _ _ (s₁.setTop (mkF m 1 #[.val (.ref a1), .val (.long qa), .second, .val (.long qb), .second, .val (.long qc), .second, .val (.long qd), .second, .val (.long qe), .second, .val (.long qf), .second] [(.ref a1)]))
  obtain ⟨ak1, cl1, Ar1, Aq1, As1, An1, Ah1, Ag1⟩ := id V_1
  refine ogo (fun t k => X0.arraylength hx (by rw [e0]; exact Ar1.1) (State.isArrayOf_alike hZ.alike Ar1.2.1) (g := (mkF m 1 #[.val (.ref a1), .val (.long qa), .second, .val (.long qb), .second, .val (.long qc), .second, .val (.long qd), .second, .val (.long qe), .second, .val (.long qf), .second] [(.ref a1)])) rfl rfl (hb hby d3_1) t k) ?_
  rw [len_of As1 An1]
  show OwnEnds _ _ _ _ _ _ _ (s₁.setTop (mkF m 2 #[.val (.ref a1), .val (.long qa), .second, .val (.long qb), .second, .val (.long qc), .second, .val (.long qd), .second, .val (.long qe), .second, .val (.long qf), .second] [(.int (48 : Int32))]))
  refine ogo (fun t k => XS.bipush X0.here hx rfl (hb hby d3_2) k) ?_
  show OwnEnds _ _ _ _ _ _ _ (s₁.setTop (mkF m 4 #[.val (.ref a1), .val (.long qa), .second, .val (.long qb), .second, .val (.long qc), .second, .val (.long qd), .second, .val (.long qe), .second, .val (.long qf), .second] [(.int (48 : Int32)), (.int (48 : Int32))]))
  refine ogo (fun t k => XS.icmpNo X0.here hx rfl (hb hby d3_4) rfl (teq (by decide : (48 : Int32) = (48 : Int32))).2 k) ?_
  show OwnEnds _ _ _ _ _ _ _ (s₁.setTop (mkF m 7 #[.val (.ref a1), .val (.long qa), .second, .val (.long qb), .second, .val (.long qc), .second, .val (.long qd), .second, .val (.long qe), .second, .val (.long qf), .second] []))
  refine ogo (fun t k => XS.aloadN X0.here hx rfl (hb hby d3_7) rfl rfl k) ?_
  show OwnEnds _ _ _ _ _ _ _ (s₁.setTop (mkF m 8 #[.val (.ref a1), .val (.long qa), .second, .val (.long qb), .second, .val (.long qc), .second, .val (.long qd), .second, .val (.long qe), .second, .val (.long qf), .second] [(.ref a1)]))
  refine ogo (fun t k => XS.iconst X0.here hx rfl (hb hby d3_8) k) ?_
  show OwnEnds _ _ _ _ _ _ _ (s₁.setTop (mkF m 9 #[.val (.ref a1), .val (.long qa), .second, .val (.long qb), .second, .val (.long qc), .second, .val (.long qd), .second, .val (.long qe), .second, .val (.long qf), .second] [(.int (0 : Int32)), (.ref a1)]))
  obtain ⟨v2, _, ⟨T2, L2, k2, n2⟩, -, X2, ⟨Lc2, hQ2, l2, y2, z2⟩, st2⟩ := Jvm.LawKit.callS X0 hx (y := (⟨"com/example/opaque_token/opaquetoken/token/PinHashOfStoredPinLaw", "get", "([BI)J"⟩ : MethodName)) hown (mvT hZ (hw _ (List.mem_of_getElem? (i := 37) rfl))) (mvT hZ (hw _ (List.mem_of_getElem? (i := 38) rfl))) (mvT hZ (hw _ (List.mem_of_getElem? (i := 3) rfl))) (mvT hZ (hw _ (List.mem_of_getElem? (i := 39) rfl))) (by decide) (backOf (W := 0) (rm2 l Z a0 hw [] a1 (0 : Int32) vs1 h0 n0 Z0 V_1 hv (by decide)) hZ (hw _ (List.mem_of_getElem? (i := 39) rfl)) (hw _ (List.mem_of_getElem? (i := 3) rfl)) (by decide) (by decide)) (g := (mkF m 9 #[.val (.ref a1), .val (.long qa), .second, .val (.long qb), .second, .val (.long qc), .second, .val (.long qd), .second, .val (.long qe), .second, .val (.long qf), .second] [(.int (0 : Int32)), (.ref a1)])) rfl (by rw [hml]; rfl) (argsL := [(.ref a1), (.int (0 : Int32))]) (rest := []) (lenOf pd___BI_J rfl) rfl (by show 2 * 0 + _ ≤ _; exact Nat.le_of_eq rfl) (hb hby d3_9) (fun _ _ => ⟨rfl, e0, (by decide : 0 + 0 ≤ _), (by decide : 0 + 0 ≤ _)⟩)
  dsimp only [Pt.U, Pt.locs, Pt.cells, Pt.slots] at X2 l2 y2 z2 st2 hQ2
  subst l2 y2 z2
  obtain ⟨hv2, N2q, e2⟩ := hQ2
  obtain rfl : v2 = some (.long (own_get vs1 0)) := hv2.trans (by rfl)
  have N2 := Fr.app N0 N2q
  refine ogo (fun t k => st2 t k) ?_
  show OwnEnds _ _ _ _ _ _ _ (T2.setTop (mkF m 12 #[.val (.ref a1), .val (.long qa), .second, .val (.long qb), .second, .val (.long qc), .second, .val (.long qd), .second, .val (.long qe), .second, .val (.long qf), .second] [(.long (own_get vs1 0))]))
  refine ogo (fun t k => XS.lloadN X2.here hx rfl (hb hby d3_12) rfl k) ?_
  show OwnEnds _ _ _ _ _ _ _ (T2.setTop (mkF m 13 #[.val (.ref a1), .val (.long qa), .second, .val (.long qb), .second, .val (.long qc), .second, .val (.long qd), .second, .val (.long qe), .second, .val (.long qf), .second] [(.long qa), (.long (own_get vs1 0))]))
  refine ogo (fun t k => XS.lcmp X2.here hx rfl (hb hby d3_13) rfl k) ?_
  show OwnEnds _ _ _ _ _ _ _ (T2.setTop (mkF m 14 #[.val (.ref a1), .val (.long qa), .second, .val (.long qb), .second, .val (.long qc), .second, .val (.long qd), .second, .val (.long qe), .second, .val (.long qf), .second] [(.int (lcmpW (own_get vs1 0) qa))]))
  refine ogo (fun t k => XS.ifNo X2.here hx rfl (hb hby d3_14) rfl ((if0 _ _).trans (teq ((lw_eq (own_get vs1 0) qa).mpr hg0)).2) k) ?_
  show OwnEnds _ _ _ _ _ _ _ (T2.setTop (mkF m 17 #[.val (.ref a1), .val (.long qa), .second, .val (.long qb), .second, .val (.long qc), .second, .val (.long qd), .second, .val (.long qe), .second, .val (.long qf), .second] []))
  refine ogo (fun t k => XS.aloadN X2.here hx rfl (hb hby d3_17) rfl rfl k) ?_
  show OwnEnds _ _ _ _ _ _ _ (T2.setTop (mkF m 18 #[.val (.ref a1), .val (.long qa), .second, .val (.long qb), .second, .val (.long qc), .second, .val (.long qd), .second, .val (.long qe), .second, .val (.long qf), .second] [(.ref a1)]))
  refine ogo (fun t k => XS.bipush X2.here hx rfl (hb hby d3_18) k) ?_
  show OwnEnds _ _ _ _ _ _ _ (T2.setTop (mkF m 20 #[.val (.ref a1), .val (.long qa), .second, .val (.long qb), .second, .val (.long qc), .second, .val (.long qd), .second, .val (.long qe), .second, .val (.long qf), .second] [(.int (8 : Int32)), (.ref a1)]))
  obtain ⟨v3, _, ⟨T3, L3, k3, n3⟩, -, X3, ⟨Lc3, hQ3, l3, y3, z3⟩, st3⟩ := Jvm.LawKit.callS X2 hx (y := (⟨"com/example/opaque_token/opaquetoken/token/PinHashOfStoredPinLaw", "get", "([BI)J"⟩ : MethodName)) hown (mvT hZ (hw _ (List.mem_of_getElem? (i := 37) rfl))) (mvT hZ (hw _ (List.mem_of_getElem? (i := 38) rfl))) (mvT hZ (hw _ (List.mem_of_getElem? (i := 3) rfl))) (mvT hZ (hw _ (List.mem_of_getElem? (i := 39) rfl))) (by decide) (backOf (W := 0) (rm2 l Z a0 hw [] a1 (8 : Int32) vs1 h0 n0 Z0 V_1 hv (by decide)) hZ (hw _ (List.mem_of_getElem? (i := 39) rfl)) (hw _ (List.mem_of_getElem? (i := 3) rfl)) (by decide) (by decide)) (g := (mkF m 20 #[.val (.ref a1), .val (.long qa), .second, .val (.long qb), .second, .val (.long qc), .second, .val (.long qd), .second, .val (.long qe), .second, .val (.long qf), .second] [(.int (8 : Int32)), (.ref a1)])) rfl (by rw [hml]; rfl) (argsL := [(.ref a1), (.int (8 : Int32))]) (rest := []) (lenOf pd___BI_J rfl) rfl (by show 2 * 0 + _ ≤ _; exact Nat.le_of_eq rfl) (hb hby d3_20) (fun _ _ => ⟨rfl, e2, (by decide : 0 + 0 ≤ _), (by decide : 0 + 0 ≤ _)⟩)
  dsimp only [Pt.U, Pt.locs, Pt.cells, Pt.slots] at X3 l3 y3 z3 st3 hQ3
  subst l3 y3 z3
  obtain ⟨hv3, N3q, e3⟩ := hQ3
  obtain rfl : v3 = some (.long (own_get vs1 8)) := hv3.trans (by rfl)
  have N3 := Fr.app N2 N3q
  refine ogo (fun t k => st3 t k) ?_
  show OwnEnds _ _ _ _ _ _ _ (T3.setTop (mkF m 23 #[.val (.ref a1), .val (.long qa), .second, .val (.long qb), .second, .val (.long qc), .second, .val (.long qd), .second, .val (.long qe), .second, .val (.long qf), .second] [(.long (own_get vs1 8))]))
  refine ogo (fun t k => XS.lloadN X3.here hx rfl (hb hby d3_23) rfl k) ?_
  show OwnEnds _ _ _ _ _ _ _ (T3.setTop (mkF m 24 #[.val (.ref a1), .val (.long qa), .second, .val (.long qb), .second, .val (.long qc), .second, .val (.long qd), .second, .val (.long qe), .second, .val (.long qf), .second] [(.long qb), (.long (own_get vs1 8))]))
  refine ogo (fun t k => XS.lcmp X3.here hx rfl (hb hby d3_24) rfl k) ?_
  show OwnEnds _ _ _ _ _ _ _ (T3.setTop (mkF m 25 #[.val (.ref a1), .val (.long qa), .second, .val (.long qb), .second, .val (.long qc), .second, .val (.long qd), .second, .val (.long qe), .second, .val (.long qf), .second] [(.int (lcmpW (own_get vs1 8) qb))]))
  refine ogo (fun t k => XS.ifNo X3.here hx rfl (hb hby d3_25) rfl ((if0 _ _).trans (teq ((lw_eq (own_get vs1 8) qb).mpr hg1)).2) k) ?_
  show OwnEnds _ _ _ _ _ _ _ (T3.setTop (mkF m 28 #[.val (.ref a1), .val (.long qa), .second, .val (.long qb), .second, .val (.long qc), .second, .val (.long qd), .second, .val (.long qe), .second, .val (.long qf), .second] []))
  refine ogo (fun t k => XS.aloadN X3.here hx rfl (hb hby d3_28) rfl rfl k) ?_
  show OwnEnds _ _ _ _ _ _ _ (T3.setTop (mkF m 29 #[.val (.ref a1), .val (.long qa), .second, .val (.long qb), .second, .val (.long qc), .second, .val (.long qd), .second, .val (.long qe), .second, .val (.long qf), .second] [(.ref a1)]))
  refine ogo (fun t k => XS.bipush X3.here hx rfl (hb hby d3_29) k) ?_
  show OwnEnds _ _ _ _ _ _ _ (T3.setTop (mkF m 31 #[.val (.ref a1), .val (.long qa), .second, .val (.long qb), .second, .val (.long qc), .second, .val (.long qd), .second, .val (.long qe), .second, .val (.long qf), .second] [(.int (16 : Int32)), (.ref a1)]))
  obtain ⟨v4, _, ⟨T4, L4, k4, n4⟩, -, X4, ⟨Lc4, hQ4, l4, y4, z4⟩, st4⟩ := Jvm.LawKit.callS X3 hx (y := (⟨"com/example/opaque_token/opaquetoken/token/PinHashOfStoredPinLaw", "get", "([BI)J"⟩ : MethodName)) hown (mvT hZ (hw _ (List.mem_of_getElem? (i := 37) rfl))) (mvT hZ (hw _ (List.mem_of_getElem? (i := 38) rfl))) (mvT hZ (hw _ (List.mem_of_getElem? (i := 3) rfl))) (mvT hZ (hw _ (List.mem_of_getElem? (i := 39) rfl))) (by decide) (backOf (W := 0) (rm2 l Z a0 hw [] a1 (16 : Int32) vs1 h0 n0 Z0 V_1 hv (by decide)) hZ (hw _ (List.mem_of_getElem? (i := 39) rfl)) (hw _ (List.mem_of_getElem? (i := 3) rfl)) (by decide) (by decide)) (g := (mkF m 31 #[.val (.ref a1), .val (.long qa), .second, .val (.long qb), .second, .val (.long qc), .second, .val (.long qd), .second, .val (.long qe), .second, .val (.long qf), .second] [(.int (16 : Int32)), (.ref a1)])) rfl (by rw [hml]; rfl) (argsL := [(.ref a1), (.int (16 : Int32))]) (rest := []) (lenOf pd___BI_J rfl) rfl (by show 2 * 0 + _ ≤ _; exact Nat.le_of_eq rfl) (hb hby d3_31) (fun _ _ => ⟨rfl, e3, (by decide : 0 + 0 ≤ _), (by decide : 0 + 0 ≤ _)⟩)
  dsimp only [Pt.U, Pt.locs, Pt.cells, Pt.slots] at X4 l4 y4 z4 st4 hQ4
  subst l4 y4 z4
  obtain ⟨hv4, N4q, e4⟩ := hQ4
  obtain rfl : v4 = some (.long (own_get vs1 16)) := hv4.trans (by rfl)
  have N4 := Fr.app N3 N4q
  refine ogo (fun t k => st4 t k) ?_
  show OwnEnds _ _ _ _ _ _ _ (T4.setTop (mkF m 34 #[.val (.ref a1), .val (.long qa), .second, .val (.long qb), .second, .val (.long qc), .second, .val (.long qd), .second, .val (.long qe), .second, .val (.long qf), .second] [(.long (own_get vs1 16))]))
  refine ogo (fun t k => XS.lload X4.here hx rfl (hb hby d3_34) rfl k) ?_
  show OwnEnds _ _ _ _ _ _ _ (T4.setTop (mkF m 36 #[.val (.ref a1), .val (.long qa), .second, .val (.long qb), .second, .val (.long qc), .second, .val (.long qd), .second, .val (.long qe), .second, .val (.long qf), .second] [(.long qc), (.long (own_get vs1 16))]))
  refine ogo (fun t k => XS.lcmp X4.here hx rfl (hb hby d3_36) rfl k) ?_
  show OwnEnds _ _ _ _ _ _ _ (T4.setTop (mkF m 37 #[.val (.ref a1), .val (.long qa), .second, .val (.long qb), .second, .val (.long qc), .second, .val (.long qd), .second, .val (.long qe), .second, .val (.long qf), .second] [(.int (lcmpW (own_get vs1 16) qc))]))
  refine ogo (fun t k => XS.ifNo X4.here hx rfl (hb hby d3_37) rfl ((if0 _ _).trans (teq ((lw_eq (own_get vs1 16) qc).mpr hg2)).2) k) ?_
  show OwnEnds _ _ _ _ _ _ _ (T4.setTop (mkF m 40 #[.val (.ref a1), .val (.long qa), .second, .val (.long qb), .second, .val (.long qc), .second, .val (.long qd), .second, .val (.long qe), .second, .val (.long qf), .second] []))
  refine ogo (fun t k => XS.aloadN X4.here hx rfl (hb hby d3_40) rfl rfl k) ?_
  show OwnEnds _ _ _ _ _ _ _ (T4.setTop (mkF m 41 #[.val (.ref a1), .val (.long qa), .second, .val (.long qb), .second, .val (.long qc), .second, .val (.long qd), .second, .val (.long qe), .second, .val (.long qf), .second] [(.ref a1)]))
  refine ogo (fun t k => XS.bipush X4.here hx rfl (hb hby d3_41) k) ?_
  show OwnEnds _ _ _ _ _ _ _ (T4.setTop (mkF m 43 #[.val (.ref a1), .val (.long qa), .second, .val (.long qb), .second, .val (.long qc), .second, .val (.long qd), .second, .val (.long qe), .second, .val (.long qf), .second] [(.int (24 : Int32)), (.ref a1)]))
  obtain ⟨v5, _, ⟨T5, L5, k5, n5⟩, -, X5, ⟨Lc5, hQ5, l5, y5, z5⟩, st5⟩ := Jvm.LawKit.callS X4 hx (y := (⟨"com/example/opaque_token/opaquetoken/token/PinHashOfStoredPinLaw", "get", "([BI)J"⟩ : MethodName)) hown (mvT hZ (hw _ (List.mem_of_getElem? (i := 37) rfl))) (mvT hZ (hw _ (List.mem_of_getElem? (i := 38) rfl))) (mvT hZ (hw _ (List.mem_of_getElem? (i := 3) rfl))) (mvT hZ (hw _ (List.mem_of_getElem? (i := 39) rfl))) (by decide) (backOf (W := 0) (rm2 l Z a0 hw [] a1 (24 : Int32) vs1 h0 n0 Z0 V_1 hv (by decide)) hZ (hw _ (List.mem_of_getElem? (i := 39) rfl)) (hw _ (List.mem_of_getElem? (i := 3) rfl)) (by decide) (by decide)) (g := (mkF m 43 #[.val (.ref a1), .val (.long qa), .second, .val (.long qb), .second, .val (.long qc), .second, .val (.long qd), .second, .val (.long qe), .second, .val (.long qf), .second] [(.int (24 : Int32)), (.ref a1)])) rfl (by rw [hml]; rfl) (argsL := [(.ref a1), (.int (24 : Int32))]) (rest := []) (lenOf pd___BI_J rfl) rfl (by show 2 * 0 + _ ≤ _; exact Nat.le_of_eq rfl) (hb hby d3_43) (fun _ _ => ⟨rfl, e4, (by decide : 0 + 0 ≤ _), (by decide : 0 + 0 ≤ _)⟩)
  dsimp only [Pt.U, Pt.locs, Pt.cells, Pt.slots] at X5 l5 y5 z5 st5 hQ5
  subst l5 y5 z5
  obtain ⟨hv5, N5q, e5⟩ := hQ5
  obtain rfl : v5 = some (.long (own_get vs1 24)) := hv5.trans (by rfl)
  have N5 := Fr.app N4 N5q
  refine ogo (fun t k => st5 t k) ?_
  show OwnEnds _ _ _ _ _ _ _ (T5.setTop (mkF m 46 #[.val (.ref a1), .val (.long qa), .second, .val (.long qb), .second, .val (.long qc), .second, .val (.long qd), .second, .val (.long qe), .second, .val (.long qf), .second] [(.long (own_get vs1 24))]))
  refine ogo (fun t k => XS.lload X5.here hx rfl (hb hby d3_46) rfl k) ?_
  show OwnEnds _ _ _ _ _ _ _ (T5.setTop (mkF m 48 #[.val (.ref a1), .val (.long qa), .second, .val (.long qb), .second, .val (.long qc), .second, .val (.long qd), .second, .val (.long qe), .second, .val (.long qf), .second] [(.long qd), (.long (own_get vs1 24))]))
  refine ogo (fun t k => XS.lcmp X5.here hx rfl (hb hby d3_48) rfl k) ?_
  show OwnEnds _ _ _ _ _ _ _ (T5.setTop (mkF m 49 #[.val (.ref a1), .val (.long qa), .second, .val (.long qb), .second, .val (.long qc), .second, .val (.long qd), .second, .val (.long qe), .second, .val (.long qf), .second] [(.int (lcmpW (own_get vs1 24) qd))]))
  refine ogo (fun t k => XS.ifNo X5.here hx rfl (hb hby d3_49) rfl ((if0 _ _).trans (teq ((lw_eq (own_get vs1 24) qd).mpr hg3)).2) k) ?_
  show OwnEnds _ _ _ _ _ _ _ (T5.setTop (mkF m 52 #[.val (.ref a1), .val (.long qa), .second, .val (.long qb), .second, .val (.long qc), .second, .val (.long qd), .second, .val (.long qe), .second, .val (.long qf), .second] []))
  refine ogo (fun t k => XS.aloadN X5.here hx rfl (hb hby d3_52) rfl rfl k) ?_
  show OwnEnds _ _ _ _ _ _ _ (T5.setTop (mkF m 53 #[.val (.ref a1), .val (.long qa), .second, .val (.long qb), .second, .val (.long qc), .second, .val (.long qd), .second, .val (.long qe), .second, .val (.long qf), .second] [(.ref a1)]))
  refine ogo (fun t k => XS.bipush X5.here hx rfl (hb hby d3_53) k) ?_
  show OwnEnds _ _ _ _ _ _ _ (T5.setTop (mkF m 55 #[.val (.ref a1), .val (.long qa), .second, .val (.long qb), .second, .val (.long qc), .second, .val (.long qd), .second, .val (.long qe), .second, .val (.long qf), .second] [(.int (32 : Int32)), (.ref a1)]))
  obtain ⟨v6, _, ⟨T6, L6, k6, n6⟩, -, X6, ⟨Lc6, hQ6, l6, y6, z6⟩, st6⟩ := Jvm.LawKit.callS X5 hx (y := (⟨"com/example/opaque_token/opaquetoken/token/PinHashOfStoredPinLaw", "get", "([BI)J"⟩ : MethodName)) hown (mvT hZ (hw _ (List.mem_of_getElem? (i := 37) rfl))) (mvT hZ (hw _ (List.mem_of_getElem? (i := 38) rfl))) (mvT hZ (hw _ (List.mem_of_getElem? (i := 3) rfl))) (mvT hZ (hw _ (List.mem_of_getElem? (i := 39) rfl))) (by decide) (backOf (W := 0) (rm2 l Z a0 hw [] a1 (32 : Int32) vs1 h0 n0 Z0 V_1 hv (by decide)) hZ (hw _ (List.mem_of_getElem? (i := 39) rfl)) (hw _ (List.mem_of_getElem? (i := 3) rfl)) (by decide) (by decide)) (g := (mkF m 55 #[.val (.ref a1), .val (.long qa), .second, .val (.long qb), .second, .val (.long qc), .second, .val (.long qd), .second, .val (.long qe), .second, .val (.long qf), .second] [(.int (32 : Int32)), (.ref a1)])) rfl (by rw [hml]; rfl) (argsL := [(.ref a1), (.int (32 : Int32))]) (rest := []) (lenOf pd___BI_J rfl) rfl (by show 2 * 0 + _ ≤ _; exact Nat.le_of_eq rfl) (hb hby d3_55) (fun _ _ => ⟨rfl, e5, (by decide : 0 + 0 ≤ _), (by decide : 0 + 0 ≤ _)⟩)
  dsimp only [Pt.U, Pt.locs, Pt.cells, Pt.slots] at X6 l6 y6 z6 st6 hQ6
  subst l6 y6 z6
  obtain ⟨hv6, N6q, e6⟩ := hQ6
  obtain rfl : v6 = some (.long (own_get vs1 32)) := hv6.trans (by rfl)
  have N6 := Fr.app N5 N6q
  refine ogo (fun t k => st6 t k) ?_
  show OwnEnds _ _ _ _ _ _ _ (T6.setTop (mkF m 58 #[.val (.ref a1), .val (.long qa), .second, .val (.long qb), .second, .val (.long qc), .second, .val (.long qd), .second, .val (.long qe), .second, .val (.long qf), .second] [(.long (own_get vs1 32))]))
  refine ogo (fun t k => XS.lload X6.here hx rfl (hb hby d3_58) rfl k) ?_
  show OwnEnds _ _ _ _ _ _ _ (T6.setTop (mkF m 60 #[.val (.ref a1), .val (.long qa), .second, .val (.long qb), .second, .val (.long qc), .second, .val (.long qd), .second, .val (.long qe), .second, .val (.long qf), .second] [(.long qe), (.long (own_get vs1 32))]))
  refine ogo (fun t k => XS.lcmp X6.here hx rfl (hb hby d3_60) rfl k) ?_
  show OwnEnds _ _ _ _ _ _ _ (T6.setTop (mkF m 61 #[.val (.ref a1), .val (.long qa), .second, .val (.long qb), .second, .val (.long qc), .second, .val (.long qd), .second, .val (.long qe), .second, .val (.long qf), .second] [(.int (lcmpW (own_get vs1 32) qe))]))
  refine ogo (fun t k => XS.ifNo X6.here hx rfl (hb hby d3_61) rfl ((if0 _ _).trans (teq ((lw_eq (own_get vs1 32) qe).mpr hg4)).2) k) ?_
  show OwnEnds _ _ _ _ _ _ _ (T6.setTop (mkF m 64 #[.val (.ref a1), .val (.long qa), .second, .val (.long qb), .second, .val (.long qc), .second, .val (.long qd), .second, .val (.long qe), .second, .val (.long qf), .second] []))
  refine ogo (fun t k => XS.aloadN X6.here hx rfl (hb hby d3_64) rfl rfl k) ?_
  show OwnEnds _ _ _ _ _ _ _ (T6.setTop (mkF m 65 #[.val (.ref a1), .val (.long qa), .second, .val (.long qb), .second, .val (.long qc), .second, .val (.long qd), .second, .val (.long qe), .second, .val (.long qf), .second] [(.ref a1)]))
  refine ogo (fun t k => XS.bipush X6.here hx rfl (hb hby d3_65) k) ?_
  show OwnEnds _ _ _ _ _ _ _ (T6.setTop (mkF m 67 #[.val (.ref a1), .val (.long qa), .second, .val (.long qb), .second, .val (.long qc), .second, .val (.long qd), .second, .val (.long qe), .second, .val (.long qf), .second] [(.int (40 : Int32)), (.ref a1)]))
  obtain ⟨v7, _, ⟨T7, L7, k7, n7⟩, -, X7, ⟨Lc7, hQ7, l7, y7, z7⟩, st7⟩ := Jvm.LawKit.callS X6 hx (y := (⟨"com/example/opaque_token/opaquetoken/token/PinHashOfStoredPinLaw", "get", "([BI)J"⟩ : MethodName)) hown (mvT hZ (hw _ (List.mem_of_getElem? (i := 37) rfl))) (mvT hZ (hw _ (List.mem_of_getElem? (i := 38) rfl))) (mvT hZ (hw _ (List.mem_of_getElem? (i := 3) rfl))) (mvT hZ (hw _ (List.mem_of_getElem? (i := 39) rfl))) (by decide) (backOf (W := 0) (rm2 l Z a0 hw [] a1 (40 : Int32) vs1 h0 n0 Z0 V_1 hv (by decide)) hZ (hw _ (List.mem_of_getElem? (i := 39) rfl)) (hw _ (List.mem_of_getElem? (i := 3) rfl)) (by decide) (by decide)) (g := (mkF m 67 #[.val (.ref a1), .val (.long qa), .second, .val (.long qb), .second, .val (.long qc), .second, .val (.long qd), .second, .val (.long qe), .second, .val (.long qf), .second] [(.int (40 : Int32)), (.ref a1)])) rfl (by rw [hml]; rfl) (argsL := [(.ref a1), (.int (40 : Int32))]) (rest := []) (lenOf pd___BI_J rfl) rfl (by show 2 * 0 + _ ≤ _; exact Nat.le_of_eq rfl) (hb hby d3_67) (fun _ _ => ⟨rfl, e6, (by decide : 0 + 0 ≤ _), (by decide : 0 + 0 ≤ _)⟩)
  dsimp only [Pt.U, Pt.locs, Pt.cells, Pt.slots] at X7 l7 y7 z7 st7 hQ7
  subst l7 y7 z7
  obtain ⟨hv7, N7q, e7⟩ := hQ7
  obtain rfl : v7 = some (.long (own_get vs1 40)) := hv7.trans (by rfl)
  have N7 := Fr.app N6 N7q
  refine ogo (fun t k => st7 t k) ?_
  show OwnEnds _ _ _ _ _ _ _ (T7.setTop (mkF m 70 #[.val (.ref a1), .val (.long qa), .second, .val (.long qb), .second, .val (.long qc), .second, .val (.long qd), .second, .val (.long qe), .second, .val (.long qf), .second] [(.long (own_get vs1 40))]))
  refine ogo (fun t k => XS.lload X7.here hx rfl (hb hby d3_70) rfl k) ?_
  show OwnEnds _ _ _ _ _ _ _ (T7.setTop (mkF m 72 #[.val (.ref a1), .val (.long qa), .second, .val (.long qb), .second, .val (.long qc), .second, .val (.long qd), .second, .val (.long qe), .second, .val (.long qf), .second] [(.long qf), (.long (own_get vs1 40))]))
  refine ogo (fun t k => XS.lcmp X7.here hx rfl (hb hby d3_72) rfl k) ?_
  show OwnEnds _ _ _ _ _ _ _ (T7.setTop (mkF m 73 #[.val (.ref a1), .val (.long qa), .second, .val (.long qb), .second, .val (.long qc), .second, .val (.long qd), .second, .val (.long qe), .second, .val (.long qf), .second] [(.int (lcmpW (own_get vs1 40) qf))]))
  refine ogo (fun t k => XS.ifNo X7.here hx rfl (hb hby d3_73) rfl ((if0 _ _).trans (teq ((lw_eq (own_get vs1 40) qf).mpr hg5)).2) k) ?_
  show OwnEnds _ _ _ _ _ _ _ (T7.setTop (mkF m 76 #[.val (.ref a1), .val (.long qa), .second, .val (.long qb), .second, .val (.long qc), .second, .val (.long qd), .second, .val (.long qe), .second, .val (.long qf), .second] []))
  refine ogo (fun t k => XS.iconst X7.here hx rfl (hb hby d3_76) k) ?_
  show OwnEnds _ _ _ _ _ _ _ (T7.setTop (mkF m 77 #[.val (.ref a1), .val (.long qa), .second, .val (.long qb), .second, .val (.long qc), .second, .val (.long qd), .second, .val (.long qe), .second, .val (.long qf), .second] [(.int (1 : Int32))]))
  refine ogo (fun t k => XS.goto X7.here hx rfl (pc0 := 77) (pc' := 81) rfl (hb hby d3_77) (by decide) (by decide) k) ?_
  show OwnEnds _ _ _ _ _ _ _ (T7.setTop (mkF m 81 #[.val (.ref a1), .val (.long qa), .second, .val (.long qb), .second, .val (.long qc), .second, .val (.long qd), .second, .val (.long qe), .second, .val (.long qf), .second] [(.int (1 : Int32))]))
  refine endZ X7 hx hlk hret rfl (hb hby d3_81) (by decide) (by decide) ?_
  show Q3 Z a1 qa qb qc qd qe qf vs1 h0 n0 _ T7.heap _
  rw [e7]
  exact ⟨by simp [], N7, rfl⟩
theorem d4_0 : decode prog_58_method_1_code 0 = .ok (.aload_n 0, 1) := by decide +kernel
theorem d4_1 : decode prog_58_method_1_code 1 = .ok (.invokespecial 5, 3) := by decide +kernel
theorem d4_4 : decode prog_58_method_1_code 4 = .ok (.aload_n 0, 1) := by decide +kernel
theorem d4_5 : decode prog_58_method_1_code 5 = .ok (.aload_n 1, 1) := by decide +kernel
theorem d4_6 : decode prog_58_method_1_code 6 = .ok (.putfield 11, 3) := by decide +kernel
theorem d4_9 : decode prog_58_method_1_code 9 = .ok (.return_, 1) := by decide +kernel
theorem pn_PinHash : plainName "com/example/opaque_token/opaquetoken/token/PinHash" = true := by first | (simp [plainName, overriddenIn]; done) | decide +kernel
theorem ef_4 (m : MethodId) (x0 : Addr) (x1 : Addr) : entryFrame m #[(.ref x0), (.ref x1)] 2 = mkF m 0 #[.val (.ref x0), .val (.ref x1)] [] := by first | (simp [entryFrame, mkF, argsToLocals, Value.category]; done) | rfl
def Q4 (Z : State) (a1 a2 : Addr) (h0 : Heap) (n0 : Nat) (v : Option Value) (h : Heap) (L : List Loc) : Prop := v = none ∧ Fr n0 L ∧ Keep h0 h [a1] ∧ Fld Z h a1 "com/example/opaque_token/opaquetoken/token/PinHash" "stored" "[B" (.ref a2)
set_option maxRecDepth 65536 in
set_option maxHeartbeats 40000000 in
theorem rm4 (l : Launch) (Z : State) (a0 : Array Value) (hw : ∀ d ∈ tables_1, d.before a0 Z = true) (ws : List Jvm.Cond) (a1 a2 : Addr) (h0 : Heap) (n0 : Nat) (Z0 : n0 ≤ h0.size) (OLD : Old Z n0 h0) (E_1 : Exa Z h0 a1 "com/example/opaque_token/opaquetoken/token/PinHash") (F_1 : Fld Z h0 a1 "com/example/opaque_token/opaquetoken/token/PinHash" "stored" "[B" .null) (g1 : n0 ≤ a1) :
    MetFree l (⟨"com/example/opaque_token/opaquetoken/token/PinHash", "<init>", "([B)V"⟩ : MethodName) (head1 (Jvm.Cond.code (⟨"com/example/opaque_token/opaquetoken/token/PinHash", "<init>", "([B)V"⟩ : MethodName) prog_58_method_1_code 2 none :: ws) ({ frames := 1, cells := 0, slots := 0, locals := 12 } : Room)) (fun a U => a = #[(.ref a1), (.ref a2)] ∧ Z.Warmed39 U.vm ∧ U.heap = h0) (fun _ _ _ _ _ => True) (fun _ U o U' => ∃ v L, o = .returned v ∧ Q4 Z a1 a2 h0 n0 v U'.heap L ∧ FrameEnd U o U' L ({ frames := 1, cells := 0, slots := 0, locals := 12 } : Room).cells ({ frames := 1, cells := 0, slots := 0, locals := 12 } : Room).slots) := by
  refine MetFree.of_bodySF (plainFor_of_name pn_PinHash) hisR ?_
  intro p e s m args below meth c s₁ Bd hml0 hP hK
  obtain ⟨rfl, hZ, hh⟩ := hP
  have hx := Bd.exec
  have hby := Bd.bytes
  have hml : c.maxLocals = 2 := hml0
  have hown : s.vm.findClass "com/example/opaque_token/opaquetoken/token/PinHash" = some m.cls := findClass_of_methodNamed Bd.named
  have hnm := (name_of_methodNamed Bd.named Bd.method).1
  have hlk : meth.locks = false := BodyLoose.notSynchronized Bd
  have hret := Bd.returns
  have X0 : Stand p l e ({ frames := 1, cells := 0, slots := 0, locals := 12 } : Room) s m #[(.ref a1), (.ref a2)] below meth c s₁ [] 0 0 := Stand.of_body Bd
  have e0 : s₁.heap = h0 := by rw [← hh, Bd.state]; rfl
  have N0 := Fr.nil n0
  refine ogo (U' := s₁.setTop (mkF m 0 #[.val (.ref a1), .val (.ref a2)] [])) (Q := Q4 Z a1 a2 h0 n0) (K := ({ frames := 1, cells := 0, slots := 0, locals := 12 } : Room).cells) (N := ({ frames := 1, cells := 0, slots := 0, locals := 12 } : Room).slots) (fun t k => castTop (ef_4 m a1 a2) k) ?_
  show OwnEnds _ _ _ _ _ _ _ (s₁.setTop (mkF m 0 #[.val (.ref a1), .val (.ref a2)] []))
  refine ogo (fun t k => XS.aloadN X0.here hx rfl (hb hby d4_0) rfl rfl k) ?_
  show OwnEnds _ _ _ _ _ _ _ (s₁.setTop (mkF m 1 #[.val (.ref a1), .val (.ref a2)] [(.ref a1)]))
  obtain ⟨T1, X1, e1, st1⟩ := initO X0 hx hZ hown (hw _ (List.mem_of_getElem? (i := 24) rfl)) (hw _ (List.mem_of_getElem? (i := 25) rfl)) (hw _ (List.mem_of_getElem? (i := 26) rfl)) e0 (g := (mkF m 1 #[.val (.ref a1), .val (.ref a2)] [(.ref a1)])) rfl (by rw [hml]; rfl) rfl (hb hby d4_1) (by decide) (W := 0) (by show 2 * 0 + _ ≤ _; exact Nat.le_of_eq rfl) (by decide)
  refine ogo st1 ?_
  show OwnEnds _ _ _ _ _ _ _ (T1.setTop (mkF m 4 #[.val (.ref a1), .val (.ref a2)] []))
  refine ogo (fun t k => XS.aloadN X1.here hx rfl (hb hby d4_4) rfl rfl k) ?_
  show OwnEnds _ _ _ _ _ _ _ (T1.setTop (mkF m 5 #[.val (.ref a1), .val (.ref a2)] [(.ref a1)]))
  refine ogo (fun t k => XS.aloadN X1.here hx rfl (hb hby d4_5) rfl rfl k) ?_
  show OwnEnds _ _ _ _ _ _ _ (T1.setTop (mkF m 6 #[.val (.ref a1), .val (.ref a2)] [(.ref a2), (.ref a1)]))
  obtain ⟨T2, h2, X2, e2, W2, st2⟩ := putF X1 hx hZ hown (host := "") (Or.inl (hw _ (List.mem_of_getElem? (i := 27) rfl))) Via.refl e1 F_1 E_1 (Or.inr ⟨(hw _ (List.mem_of_getElem? (i := 28) rfl)), rfl, hnm⟩) (hw _ (List.mem_of_getElem? (i := 11) rfl)) (ty := (.array .byte)) (by decide) rfl rfl (g := (mkF m 6 #[.val (.ref a1), .val (.ref a2)] [(.ref a2), (.ref a1)])) rfl rfl (hb hby d4_6)
  have f3 := E_1.wr W2
  have f4 := F_1.same W2
  have N5 := Fr.snoc X2 N0 g1
  have OLD5 := OLD.wr W2 g1
  have K5 := (Keep.refl h0 [a1]).wr W2 (Or.inl (List.mem_of_getElem? (i := 0) rfl))
  have Z5 := Nat.le_trans Z0 (Nat.le_of_eq W2.size.symm)
  refine ogo st2 ?_
  show OwnEnds _ _ _ _ _ _ _ (T2.setTop (mkF m 9 #[.val (.ref a1), .val (.ref a2)] []))
  refine endV X2 hx hlk hret (hb hby d4_9) (by decide) (by decide) ?_
  show Q4 Z a1 a2 h0 n0 _ T2.heap _
  rw [e2]
  exact ⟨rfl, N5, K5, f4⟩
theorem d5_0 : decode prog_58_method_3_code 0 = .ok (.aload_n 0, 1) := by decide +kernel
theorem d5_1 : decode prog_58_method_3_code 1 = .ok (.arraylength, 1) := by decide +kernel
theorem d5_2 : decode prog_58_method_3_code 2 = .ok (.ifCond .eq 25, 3) := by decide +kernel
theorem d5_5 : decode prog_58_method_3_code 5 = .ok (.aload_n 0, 1) := by decide +kernel
theorem d5_6 : decode prog_58_method_3_code 6 = .ok (.arraylength, 1) := by decide +kernel
theorem d5_7 : decode prog_58_method_3_code 7 = .ok (.bipush 48, 2) := by decide +kernel
theorem d5_9 : decode prog_58_method_3_code 9 = .ok (.if_icmp .eq 18, 3) := by decide +kernel
theorem d5_27 : decode prog_58_method_3_code 27 = .ok (.new 1, 3) := by decide +kernel
theorem d5_30 : decode prog_58_method_3_code 30 = .ok (.dup, 1) := by decide +kernel
theorem d5_31 : decode prog_58_method_3_code 31 = .ok (.aload_n 0, 1) := by decide +kernel
theorem d5_32 : decode prog_58_method_3_code 32 = .ok (.invokevirtual 56, 3) := by decide +kernel
theorem d5_35 : decode prog_58_method_3_code 35 = .ok (.checkcast 57, 3) := by decide +kernel
theorem d5_38 : decode prog_58_method_3_code 38 = .ok (.invokespecial 45, 3) := by decide +kernel
theorem d5_41 : decode prog_58_method_3_code 41 = .ok (.areturn, 1) := by decide +kernel
theorem pd___B_V : parseMethodDescriptor "([B)V" = some ⟨[(.array .byte)], none⟩ := by decide +kernel
theorem ef_5 (m : MethodId) (x0 : Addr) : entryFrame m #[(.ref x0)] 1 = mkF m 0 #[.val (.ref x0)] [] := by first | (simp [entryFrame, mkF, argsToLocals, Value.category]; done) | rfl
def Q5 (Z : State) (a1 : Addr) (vs1 : List Value) (h0 : Heap) (n0 : Nat) (v : Option Value) (h : Heap) (L : List Loc) : Prop := ∃ r c : Addr, v = some (.ref r) ∧ h0.size ≤ r ∧ h0.size ≤ c ∧ Fr n0 L ∧ Keep h0 h [] ∧ Exa Z h r "com/example/opaque_token/opaquetoken/token/PinHash" ∧ Fld Z h r "com/example/opaque_token/opaquetoken/token/PinHash" "stored" "[B" (.ref c) ∧ Av Z h c .byte (48 : Int32) vs1 (.int (0 : Int32)) ∧ Exa Z h c "[B"
set_option maxRecDepth 65536 in
set_option maxHeartbeats 40000000 in
theorem rm5 (l : Launch) (Z : State) (a0 : Array Value) (hw : ∀ d ∈ tables_1, d.before a0 Z = true) (ws : List Jvm.Cond) (a1 : Addr) (vs1 : List Value) (h0 : Heap) (n0 : Nat) (Z0 : n0 ≤ h0.size) (OLD : Old Z n0 h0) (V_1 : Av Z h0 a1 .byte (48 : Int32) vs1 (.int (0 : Int32))) (E_1 : Exa Z h0 a1 "[B") :
    MetFree l (⟨"com/example/opaque_token/opaquetoken/token/PinHash", "ofStored", "([B)Lcom/example/opaque_token/opaquetoken/token/PinHash;"⟩ : MethodName) (head1 (Jvm.Cond.code (⟨"com/example/opaque_token/opaquetoken/token/PinHash", "ofStored", "([B)Lcom/example/opaque_token/opaquetoken/token/PinHash;"⟩ : MethodName) prog_58_method_3_code 1 (some (.object "com/example/opaque_token/opaquetoken/token/PinHash")) :: ws) ({ frames := 2, cells := 2, slots := 49, locals := 26 } : Room)) (fun a U => a = #[(.ref a1)] ∧ Z.Warmed39 U.vm ∧ U.heap = h0) (fun _ _ _ _ _ => True) (fun _ U o U' => ∃ v L, o = .returned v ∧ Q5 Z a1 vs1 h0 n0 v U'.heap L ∧ FrameEnd U o U' L ({ frames := 2, cells := 2, slots := 49, locals := 26 } : Room).cells ({ frames := 2, cells := 2, slots := 49, locals := 26 } : Room).slots) := by
  refine MetFree.of_bodySF (plainFor_of_name pn_PinHash) hisR ?_
  intro p e s m args below meth c s₁ Bd hml0 hP hK
  obtain ⟨rfl, hZ, hh⟩ := hP
  have hx := Bd.exec
  have hby := Bd.bytes
  have hml : c.maxLocals = 1 := hml0
  have hown : s.vm.findClass "com/example/opaque_token/opaquetoken/token/PinHash" = some m.cls := findClass_of_methodNamed Bd.named
  have hnm := (name_of_methodNamed Bd.named Bd.method).1
  have hlk : meth.locks = false := BodyLoose.notSynchronized Bd
  have hret := Bd.returns
  have X0 : Stand p l e ({ frames := 2, cells := 2, slots := 49, locals := 26 } : Room) s m #[(.ref a1)] below meth c s₁ [] 0 0 := Stand.of_body Bd
  have e0 : s₁.heap = h0 := by rw [← hh, Bd.state]; rfl
  have N0 := Fr.nil n0
  refine ogo (U' := s₁.setTop (mkF m 0 #[.val (.ref a1)] [])) (Q := Q5 Z a1 vs1 h0 n0) (K := ({ frames := 2, cells := 2, slots := 49, locals := 26 } : Room).cells) (N := ({ frames := 2, cells := 2, slots := 49, locals := 26 } : Room).slots) (fun t k => castTop (ef_5 m a1) k) ?_
  show OwnEnds _ _ _ _ _ _ _ (s₁.setTop (mkF m 0 #[.val (.ref a1)] []))
  refine ogo (fun t k => XS.aloadN X0.here hx rfl (hb hby d5_0) rfl rfl k) ?_
  show OwnEnds _ _ _ _ _ _ _ (s₁.setTop (mkF m 1 #[.val (.ref a1)] [(.ref a1)]))
  obtain ⟨ak1, cl1, Ar1, Aq1, As1, An1, Ah1, Ag1⟩ := id V_1
  refine ogo (fun t k => X0.arraylength hx (by rw [e0]; exact Ar1.1) (State.isArrayOf_alike hZ.alike Ar1.2.1) (g := (mkF m 1 #[.val (.ref a1)] [(.ref a1)])) rfl rfl (hb hby d5_1) t k) ?_
  rw [len_of As1 An1]
  show OwnEnds _ _ _ _ _ _ _ (s₁.setTop (mkF m 2 #[.val (.ref a1)] [(.int (48 : Int32))]))
  refine ogo (fun t k => XS.ifNo X0.here hx rfl (hb hby d5_2) rfl ((if0 _ _).trans (feq (by decide : ¬ ((48 : Int32) = (0 : Int32)))).1) k) ?_
  show OwnEnds _ _ _ _ _ _ _ (s₁.setTop (mkF m 5 #[.val (.ref a1)] []))
  refine ogo (fun t k => XS.aloadN X0.here hx rfl (hb hby d5_5) rfl rfl k) ?_
  show OwnEnds _ _ _ _ _ _ _ (s₁.setTop (mkF m 6 #[.val (.ref a1)] [(.ref a1)]))
  obtain ⟨ak2, cl2, Ar2, Aq2, As2, An2, Ah2, Ag2⟩ := id V_1
  refine ogo (fun t k => X0.arraylength hx (by rw [e0]; exact Ar2.1) (State.isArrayOf_alike hZ.alike Ar2.2.1) (g := (mkF m 6 #[.val (.ref a1)] [(.ref a1)])) rfl rfl (hb hby d5_6) t k) ?_
  rw [len_of As2 An2]
  show OwnEnds _ _ _ _ _ _ _ (s₁.setTop (mkF m 7 #[.val (.ref a1)] [(.int (48 : Int32))]))
  refine ogo (fun t k => XS.bipush X0.here hx rfl (hb hby d5_7) k) ?_
  show OwnEnds _ _ _ _ _ _ _ (s₁.setTop (mkF m 9 #[.val (.ref a1)] [(.int (48 : Int32)), (.int (48 : Int32))]))
  refine ogo (fun t k => XS.icmpYes X0.here hx rfl (pc0 := 9) (pc' := 27) rfl (hb hby d5_9) rfl (teq (by decide : (48 : Int32) = (48 : Int32))).1 (by decide) (by decide) k) ?_
  show OwnEnds _ _ _ _ _ _ _ (s₁.setTop (mkF m 27 #[.val (.ref a1)] []))
  obtain ⟨T3, h3, X3, e3, E3, A3, D3, -, st3⟩ := newO X0 hx hZ hown (hw _ (List.mem_of_getElem? (i := 10) rfl)) (hw _ (List.mem_of_getElem? (i := 11) rfl)) (hw _ (List.mem_of_getElem? (i := 8) rfl)) e0 (g := (mkF m 27 #[.val (.ref a1)] [])) rfl (hb hby d5_27) (by decide) (by decide)
  obtain ⟨b3, g3⟩ : ∃ z, z = h0.size := ⟨_, rfl⟩
  rw [← g3] at A3 D3 st3
  have ne_a1_b3 : a1 ≠ b3 := Nat.ne_of_lt (Nat.lt_of_lt_of_le (V_1).lt (Nat.le_of_eq g3.symm))
  have q_b3 : n0 ≤ b3 := Nat.le_trans Z0 (Nat.le_of_eq g3.symm)
  have sz_b3 : h0.size ≤ b3 := Nat.le_trans (Keep.refl h0 []).1 (Nat.le_of_eq g3.symm)
  have f4 := V_1.ext E3
  have f5 := E_1.ext E3
  have OLD6 := OLD.ext E3
  have K6 := (Keep.refl h0 []).ext E3
  have Z6 := Nat.le_trans Z0 E3.1
  have f7 : Fld Z h3 b3 "com/example/opaque_token/opaquetoken/token/PinHash" "stored" "[B" .null := D3 (Or.inr (hw _ (List.mem_of_getElem? (i := 28) rfl))) (ty := (.array .byte)) (by decide)
  refine ogo st3 ?_
  show OwnEnds _ _ _ _ _ _ _ (T3.setTop (mkF m 30 #[.val (.ref a1)] [(.ref b3)]))
  refine ogo (fun t k => XS.dup X3.here hx rfl (hb hby d5_30) rfl rfl k) ?_
  show OwnEnds _ _ _ _ _ _ _ (T3.setTop (mkF m 31 #[.val (.ref a1)] [(.ref b3), (.ref b3)]))
  refine ogo (fun t k => XS.aloadN X3.here hx rfl (hb hby d5_31) rfl rfl k) ?_
  show OwnEnds _ _ _ _ _ _ _ (T3.setTop (mkF m 32 #[.val (.ref a1)] [(.ref a1), (.ref b3), (.ref b3)]))
  obtain ⟨kc8, Vc8⟩ := id f4
  obtain ⟨T8, h8, X8, e8, E8, A8, B8, st8⟩ := cloneH X3 hx hZ hown (hw _ (List.mem_of_getElem? (i := 12) rfl)) (hw _ (List.mem_of_getElem? (i := 13) rfl)) (hw _ (List.mem_of_getElem? (i := 17) rfl)) (hw _ (List.mem_of_getElem? (i := 15) rfl)) (hw _ (List.mem_of_getElem? (i := 16) rfl)) (hw _ (List.mem_of_getElem? (i := 18) rfl)) e3 (Arv.arh Vc8) f5 (g := (mkF m 32 #[.val (.ref a1)] [(.ref a1), (.ref b3), (.ref b3)])) rfl (by rw [hml]; rfl) rfl (hb hby d5_32) (by decide) (W := 2) (cap := 48) (by show 2 * 0 + _ ≤ _; exact Nat.le_of_eq rfl) (by decide) (by decide) (by decide) (by decide)
  obtain ⟨b8, g8⟩ : ∃ z, z = h3.size := ⟨_, rfl⟩
  rw [← g8] at A8 B8 st8
  have ne_a1_b8 : a1 ≠ b8 := Nat.ne_of_lt (Nat.lt_of_lt_of_le (f4).lt (Nat.le_of_eq g8.symm))
  have ne_b3_b8 : b3 ≠ b8 := Nat.ne_of_lt (Nat.lt_of_lt_of_le (A3).lt (Nat.le_of_eq g8.symm))
  have q_b8 : n0 ≤ b8 := Nat.le_trans Z6 (Nat.le_of_eq g8.symm)
  have sz_b8 : h0.size ≤ b8 := Nat.le_trans K6.1 (Nat.le_of_eq g8.symm)
  have f9 := f4.ext E8
  have f10 := f5.ext E8
  have f11 := A3.ext E8
  have f12 := f7.ext E8
  have OLD13 := OLD6.ext E8
  have K13 := K6.ext E8
  have Z13 := Nat.le_trans Z6 E8.1
  have V8 : Arv Z h8 b8 kc8 .byte (48 : Int32) vs1 (.int (0 : Int32)) := A8
  refine ogo st8 ?_
  show OwnEnds _ _ _ _ _ _ _ (T8.setTop (mkF m 35 #[.val (.ref a1)] [(.ref b8), (.ref b3), (.ref b3)]))
  obtain ⟨T14, X14, e14, st14⟩ := castY X8 hx hZ hown (hw _ (List.mem_of_getElem? (i := 19) rfl)) e8 (Ins.self B8) (g := (mkF m 35 #[.val (.ref a1)] [(.ref b8), (.ref b3), (.ref b3)])) rfl rfl (hb hby d5_35)
  refine ogo st14 ?_
  show OwnEnds _ _ _ _ _ _ _ (T14.setTop (mkF m 38 #[.val (.ref a1)] [(.ref b8), (.ref b3), (.ref b3)]))
  obtain ⟨v15, _, ⟨T15, L15, k15, n15⟩, -, X15, ⟨Lc15, hQ15, l15, y15, z15⟩, st15⟩ := X14.specialBack hx (y := (⟨"com/example/opaque_token/opaquetoken/token/PinHash", "<init>", "([B)V"⟩ : MethodName)) rfl hown (mvT hZ (hw _ (List.mem_of_getElem? (i := 21) rfl))) (mvT hZ (hw _ (List.mem_of_getElem? (i := 22) rfl))) (mvT hZ (hw _ (List.mem_of_getElem? (i := 23) rfl))) (by decide) (backOf (W := 1) (rm4 l Z a0 hw [] b3 b8 h8 n0 Z13 OLD13 f11 f12 q_b3) hZ (hw _ (List.mem_of_getElem? (i := 23) rfl)) (hw _ (List.mem_of_getElem? (i := 8) rfl)) (by decide) (by decide)) (g := (mkF m 38 #[.val (.ref a1)] [(.ref b8), (.ref b3), (.ref b3)])) rfl (by rw [hml]; rfl) (Steps.refl _) (a := b3) (argsL := [(.ref b8)]) (rest := [(.ref b3)]) (lenOf pd___B_V rfl) rfl (by show 2 * 0 + _ ≤ _; exact Nat.le_of_eq rfl) (hb hby d5_38) (fun _ _ => ⟨rfl, e14, (by decide : 2 + 0 ≤ _), (by decide : 49 + 0 ≤ _)⟩)
  dsimp only [Pt.U, Pt.locs, Pt.cells, Pt.slots] at X15 l15 y15 z15 st15 hQ15
  subst l15 y15 z15
  obtain ⟨rfl, N15q, Kq15, Fq15⟩ := hQ15
  have N15 := Fr.app N0 N15q
  have f16 := f9.keep Kq15 (ninS ne_a1_b3 nin0)
  have f17 := f10.keep Kq15
  have f18 := f11.keep Kq15
  have f19 := V8.keep Kq15 (ninS (Ne.symm ne_b3_b8) nin0)
  have f20 := B8.keep Kq15
  have OLD21 := OLD13.keep Kq15 (allS q_b3 all0)
  have K21 := K13.trans Kq15 (allS (Or.inr sz_b3) all0)
  have Z21 := Nat.le_trans Z13 Kq15.1
  refine ogo (fun t k => st15.trans k) ?_
  show OwnEnds _ _ _ _ _ _ _ (T15.setTop (mkF m 41 #[.val (.ref a1)] [(.ref b3)]))
  refine endA X15 hx hlk hret rfl rfl (hb hby d5_41) (by decide) (by decide) ?_
  show Q5 Z a1 vs1 h0 n0 _ T15.heap _
  exact ⟨b3, b8, rfl, sz_b3, sz_b8, N15, K21, f18, Fq15, ⟨_, f19⟩, f20⟩
theorem d6_0 : decode prog_58_method_3_code 0 = .ok (.aload_n 0, 1) := by decide +kernel
theorem d6_1 : decode prog_58_method_3_code 1 = .ok (.arraylength, 1) := by decide +kernel
theorem d6_2 : decode prog_58_method_3_code 2 = .ok (.ifCond .eq 25, 3) := by decide +kernel
theorem d6_27 : decode prog_58_method_3_code 27 = .ok (.new 1, 3) := by decide +kernel
theorem d6_30 : decode prog_58_method_3_code 30 = .ok (.dup, 1) := by decide +kernel
theorem d6_31 : decode prog_58_method_3_code 31 = .ok (.aload_n 0, 1) := by decide +kernel
theorem d6_32 : decode prog_58_method_3_code 32 = .ok (.invokevirtual 56, 3) := by decide +kernel
theorem d6_35 : decode prog_58_method_3_code 35 = .ok (.checkcast 57, 3) := by decide +kernel
theorem d6_38 : decode prog_58_method_3_code 38 = .ok (.invokespecial 45, 3) := by decide +kernel
theorem d6_41 : decode prog_58_method_3_code 41 = .ok (.areturn, 1) := by decide +kernel
theorem ef_6 (m : MethodId) (x0 : Addr) : entryFrame m #[(.ref x0)] 1 = mkF m 0 #[.val (.ref x0)] [] := by first | (simp [entryFrame, mkF, argsToLocals, Value.category]; done) | rfl
def Q6 (Z : State) (a1 : Addr) (vs1 : List Value) (h0 : Heap) (n0 : Nat) (v : Option Value) (h : Heap) (L : List Loc) : Prop := ∃ r c : Addr, v = some (.ref r) ∧ h0.size ≤ r ∧ h0.size ≤ c ∧ Fr n0 L ∧ Keep h0 h [] ∧ Exa Z h r "com/example/opaque_token/opaquetoken/token/PinHash" ∧ Fld Z h r "com/example/opaque_token/opaquetoken/token/PinHash" "stored" "[B" (.ref c) ∧ Av Z h c .byte (0 : Int32) vs1 (.int (0 : Int32)) ∧ Exa Z h c "[B"
set_option maxRecDepth 65536 in
set_option maxHeartbeats 40000000 in
theorem rm6 (l : Launch) (Z : State) (a0 : Array Value) (hw : ∀ d ∈ tables_1, d.before a0 Z = true) (ws : List Jvm.Cond) (a1 : Addr) (vs1 : List Value) (h0 : Heap) (n0 : Nat) (Z0 : n0 ≤ h0.size) (OLD : Old Z n0 h0) (V_1 : Av Z h0 a1 .byte (0 : Int32) vs1 (.int (0 : Int32))) (E_1 : Exa Z h0 a1 "[B") :
    MetFree l (⟨"com/example/opaque_token/opaquetoken/token/PinHash", "ofStored", "([B)Lcom/example/opaque_token/opaquetoken/token/PinHash;"⟩ : MethodName) (head1 (Jvm.Cond.code (⟨"com/example/opaque_token/opaquetoken/token/PinHash", "ofStored", "([B)Lcom/example/opaque_token/opaquetoken/token/PinHash;"⟩ : MethodName) prog_58_method_3_code 1 (some (.object "com/example/opaque_token/opaquetoken/token/PinHash")) :: ws) ({ frames := 2, cells := 2, slots := 1, locals := 26 } : Room)) (fun a U => a = #[(.ref a1)] ∧ Z.Warmed39 U.vm ∧ U.heap = h0) (fun _ _ _ _ _ => True) (fun _ U o U' => ∃ v L, o = .returned v ∧ Q6 Z a1 vs1 h0 n0 v U'.heap L ∧ FrameEnd U o U' L ({ frames := 2, cells := 2, slots := 1, locals := 26 } : Room).cells ({ frames := 2, cells := 2, slots := 1, locals := 26 } : Room).slots) := by
  refine MetFree.of_bodySF (plainFor_of_name pn_PinHash) hisR ?_
  intro p e s m args below meth c s₁ Bd hml0 hP hK
  obtain ⟨rfl, hZ, hh⟩ := hP
  have hx := Bd.exec
  have hby := Bd.bytes
  have hml : c.maxLocals = 1 := hml0
  have hown : s.vm.findClass "com/example/opaque_token/opaquetoken/token/PinHash" = some m.cls := findClass_of_methodNamed Bd.named
  have hnm := (name_of_methodNamed Bd.named Bd.method).1
  have hlk : meth.locks = false := BodyLoose.notSynchronized Bd
  have hret := Bd.returns
  have X0 : Stand p l e ({ frames := 2, cells := 2, slots := 1, locals := 26 } : Room) s m #[(.ref a1)] below meth c s₁ [] 0 0 := Stand.of_body Bd
  have e0 : s₁.heap = h0 := by rw [← hh, Bd.state]; rfl
  have N0 := Fr.nil n0
  refine ogo (U' := s₁.setTop (mkF m 0 #[.val (.ref a1)] [])) (Q := Q6 Z a1 vs1 h0 n0) (K := ({ frames := 2, cells := 2, slots := 1, locals := 26 } : Room).cells) (N := ({ frames := 2, cells := 2, slots := 1, locals := 26 } : Room).slots) (fun t k => castTop (ef_6 m a1) k) ?_
  show OwnEnds _ _ _ _ _ _ _ (s₁.setTop (mkF m 0 #[.val (.ref a1)] []))
  refine ogo (fun t k => XS.aloadN X0.here hx rfl (hb hby d6_0) rfl rfl k) ?_
  show OwnEnds _ _ _ _ _ _ _ (s₁.setTop (mkF m 1 #[.val (.ref a1)] [(.ref a1)]))
  obtain ⟨ak1, cl1, Ar1, Aq1, As1, An1, Ah1, Ag1⟩ := id V_1
  refine ogo (fun t k => X0.arraylength hx (by rw [e0]; exact Ar1.1) (State.isArrayOf_alike hZ.alike Ar1.2.1) (g := (mkF m 1 #[.val (.ref a1)] [(.ref a1)])) rfl rfl (hb hby d6_1) t k) ?_
  rw [len_of As1 An1]
  show OwnEnds _ _ _ _ _ _ _ (s₁.setTop (mkF m 2 #[.val (.ref a1)] [(.int (0 : Int32))]))
  refine ogo (fun t k => XS.ifYes X0.here hx rfl (pc0 := 2) (pc' := 27) rfl (hb hby d6_2) rfl ((if0 _ _).trans (teq (by decide : (0 : Int32) = (0 : Int32))).1) (by decide) (by decide) k) ?_
  show OwnEnds _ _ _ _ _ _ _ (s₁.setTop (mkF m 27 #[.val (.ref a1)] []))
  obtain ⟨T2, h2, X2, e2, E2, A2, D2, -, st2⟩ := newO X0 hx hZ hown (hw _ (List.mem_of_getElem? (i := 10) rfl)) (hw _ (List.mem_of_getElem? (i := 11) rfl)) (hw _ (List.mem_of_getElem? (i := 8) rfl)) e0 (g := (mkF m 27 #[.val (.ref a1)] [])) rfl (hb hby d6_27) (by decide) (by decide)
  obtain ⟨b2, g2⟩ : ∃ z, z = h0.size := ⟨_, rfl⟩
  rw [← g2] at A2 D2 st2
  have ne_a1_b2 : a1 ≠ b2 := Nat.ne_of_lt (Nat.lt_of_lt_of_le (V_1).lt (Nat.le_of_eq g2.symm))
  have q_b2 : n0 ≤ b2 := Nat.le_trans Z0 (Nat.le_of_eq g2.symm)
  have sz_b2 : h0.size ≤ b2 := Nat.le_trans (Keep.refl h0 []).1 (Nat.le_of_eq g2.symm)
  have f3 := V_1.ext E2
  have f4 := E_1.ext E2
  have OLD5 := OLD.ext E2
  have K5 := (Keep.refl h0 []).ext E2
  have Z5 := Nat.le_trans Z0 E2.1
  have f6 : Fld Z h2 b2 "com/example/opaque_token/opaquetoken/token/PinHash" "stored" "[B" .null := D2 (Or.inr (hw _ (List.mem_of_getElem? (i := 28) rfl))) (ty := (.array .byte)) (by decide)
  refine ogo st2 ?_
  show OwnEnds _ _ _ _ _ _ _ (T2.setTop (mkF m 30 #[.val (.ref a1)] [(.ref b2)]))
  refine ogo (fun t k => XS.dup X2.here hx rfl (hb hby d6_30) rfl rfl k) ?_
  show OwnEnds _ _ _ _ _ _ _ (T2.setTop (mkF m 31 #[.val (.ref a1)] [(.ref b2), (.ref b2)]))
  refine ogo (fun t k => XS.aloadN X2.here hx rfl (hb hby d6_31) rfl rfl k) ?_
  show OwnEnds _ _ _ _ _ _ _ (T2.setTop (mkF m 32 #[.val (.ref a1)] [(.ref a1), (.ref b2), (.ref b2)]))
  obtain ⟨kc7, Vc7⟩ := id f3
  obtain ⟨T7, h7, X7, e7, E7, A7, B7, st7⟩ := cloneH X2 hx hZ hown (hw _ (List.mem_of_getElem? (i := 12) rfl)) (hw _ (List.mem_of_getElem? (i := 13) rfl)) (hw _ (List.mem_of_getElem? (i := 17) rfl)) (hw _ (List.mem_of_getElem? (i := 15) rfl)) (hw _ (List.mem_of_getElem? (i := 16) rfl)) (hw _ (List.mem_of_getElem? (i := 18) rfl)) e2 (Arv.arh Vc7) f4 (g := (mkF m 32 #[.val (.ref a1)] [(.ref a1), (.ref b2), (.ref b2)])) rfl (by rw [hml]; rfl) rfl (hb hby d6_32) (by decide) (W := 2) (cap := 0) (by show 2 * 0 + _ ≤ _; exact Nat.le_of_eq rfl) (by decide) (by decide) (by decide) (by decide)
  obtain ⟨b7, g7⟩ : ∃ z, z = h2.size := ⟨_, rfl⟩
  rw [← g7] at A7 B7 st7
  have ne_a1_b7 : a1 ≠ b7 := Nat.ne_of_lt (Nat.lt_of_lt_of_le (f3).lt (Nat.le_of_eq g7.symm))
  have ne_b2_b7 : b2 ≠ b7 := Nat.ne_of_lt (Nat.lt_of_lt_of_le (A2).lt (Nat.le_of_eq g7.symm))
  have q_b7 : n0 ≤ b7 := Nat.le_trans Z5 (Nat.le_of_eq g7.symm)
  have sz_b7 : h0.size ≤ b7 := Nat.le_trans K5.1 (Nat.le_of_eq g7.symm)
  have f8 := f3.ext E7
  have f9 := f4.ext E7
  have f10 := A2.ext E7
  have f11 := f6.ext E7
  have OLD12 := OLD5.ext E7
  have K12 := K5.ext E7
  have Z12 := Nat.le_trans Z5 E7.1
  have V7 : Arv Z h7 b7 kc7 .byte (0 : Int32) vs1 (.int (0 : Int32)) := A7
  refine ogo st7 ?_
  show OwnEnds _ _ _ _ _ _ _ (T7.setTop (mkF m 35 #[.val (.ref a1)] [(.ref b7), (.ref b2), (.ref b2)]))
  obtain ⟨T13, X13, e13, st13⟩ := castY X7 hx hZ hown (hw _ (List.mem_of_getElem? (i := 19) rfl)) e7 (Ins.self B7) (g := (mkF m 35 #[.val (.ref a1)] [(.ref b7), (.ref b2), (.ref b2)])) rfl rfl (hb hby d6_35)
  refine ogo st13 ?_
  show OwnEnds _ _ _ _ _ _ _ (T13.setTop (mkF m 38 #[.val (.ref a1)] [(.ref b7), (.ref b2), (.ref b2)]))
  obtain ⟨v14, _, ⟨T14, L14, k14, n14⟩, -, X14, ⟨Lc14, hQ14, l14, y14, z14⟩, st14⟩ := X13.specialBack hx (y := (⟨"com/example/opaque_token/opaquetoken/token/PinHash", "<init>", "([B)V"⟩ : MethodName)) rfl hown (mvT hZ (hw _ (List.mem_of_getElem? (i := 21) rfl))) (mvT hZ (hw _ (List.mem_of_getElem? (i := 22) rfl))) (mvT hZ (hw _ (List.mem_of_getElem? (i := 23) rfl))) (by decide) (backOf (W := 1) (rm4 l Z a0 hw [] b2 b7 h7 n0 Z12 OLD12 f10 f11 q_b2) hZ (hw _ (List.mem_of_getElem? (i := 23) rfl)) (hw _ (List.mem_of_getElem? (i := 8) rfl)) (by decide) (by decide)) (g := (mkF m 38 #[.val (.ref a1)] [(.ref b7), (.ref b2), (.ref b2)])) rfl (by rw [hml]; rfl) (Steps.refl _) (a := b2) (argsL := [(.ref b7)]) (rest := [(.ref b2)]) (lenOf pd___B_V rfl) rfl (by show 2 * 0 + _ ≤ _; exact Nat.le_of_eq rfl) (hb hby d6_38) (fun _ _ => ⟨rfl, e13, (by decide : 2 + 0 ≤ _), (by decide : 1 + 0 ≤ _)⟩)
  dsimp only [Pt.U, Pt.locs, Pt.cells, Pt.slots] at X14 l14 y14 z14 st14 hQ14
  subst l14 y14 z14
  obtain ⟨rfl, N14q, Kq14, Fq14⟩ := hQ14
  have N14 := Fr.app N0 N14q
  have f15 := f8.keep Kq14 (ninS ne_a1_b2 nin0)
  have f16 := f9.keep Kq14
  have f17 := f10.keep Kq14
  have f18 := V7.keep Kq14 (ninS (Ne.symm ne_b2_b7) nin0)
  have f19 := B7.keep Kq14
  have OLD20 := OLD12.keep Kq14 (allS q_b2 all0)
  have K20 := K12.trans Kq14 (allS (Or.inr sz_b2) all0)
  have Z20 := Nat.le_trans Z12 Kq14.1
  refine ogo (fun t k => st14.trans k) ?_
  show OwnEnds _ _ _ _ _ _ _ (T14.setTop (mkF m 41 #[.val (.ref a1)] [(.ref b2)]))
  refine endA X14 hx hlk hret rfl rfl (hb hby d6_41) (by decide) (by decide) ?_
  show Q6 Z a1 vs1 h0 n0 _ T14.heap _
  exact ⟨b2, b7, rfl, sz_b2, sz_b7, N14, K20, f17, Fq14, ⟨_, f18⟩, f19⟩
theorem d7_0 : decode prog_58_method_4_code 0 = .ok (.aload_n 0, 1) := by decide +kernel
theorem d7_1 : decode prog_58_method_4_code 1 = .ok (.getfield 11, 3) := by decide +kernel
theorem d7_4 : decode prog_58_method_4_code 4 = .ok (.invokevirtual 56, 3) := by decide +kernel
theorem d7_7 : decode prog_58_method_4_code 7 = .ok (.checkcast 57, 3) := by decide +kernel
theorem d7_10 : decode prog_58_method_4_code 10 = .ok (.areturn, 1) := by decide +kernel
theorem ef_7 (m : MethodId) (x0 : Addr) : entryFrame m #[(.ref x0)] 1 = mkF m 0 #[.val (.ref x0)] [] := by first | (simp [entryFrame, mkF, argsToLocals, Value.category]; done) | rfl
def Q7 (Z : State) (a1 c1 : Addr) (vs1 : List Value) (h0 : Heap) (n0 : Nat) (v : Option Value) (h : Heap) (L : List Loc) : Prop := ∃ r : Addr, v = some (.ref r) ∧ h0.size ≤ r ∧ Fr n0 L ∧ Keep h0 h [] ∧ Av Z h r .byte (48 : Int32) vs1 (.int (0 : Int32)) ∧ Exa Z h r "[B"
set_option maxRecDepth 65536 in
set_option maxHeartbeats 40000000 in
theorem rm7 (l : Launch) (Z : State) (a0 : Array Value) (hw : ∀ d ∈ tables_1, d.before a0 Z = true) (ws : List Jvm.Cond) (a1 c1 : Addr) (vs1 : List Value) (h0 : Heap) (n0 : Nat) (Z0 : n0 ≤ h0.size) (OLD : Old Z n0 h0) (F_1 : Fld Z h0 a1 "com/example/opaque_token/opaquetoken/token/PinHash" "stored" "[B" (.ref c1)) (V_1 : Av Z h0 c1 .byte (48 : Int32) vs1 (.int (0 : Int32))) (E_c : Exa Z h0 c1 "[B") :
    MetFree l (⟨"com/example/opaque_token/opaquetoken/token/PinHash", "stored", "()[B"⟩ : MethodName) (head1 (Jvm.Cond.code (⟨"com/example/opaque_token/opaquetoken/token/PinHash", "stored", "()[B"⟩ : MethodName) prog_58_method_4_code 1 (some (.array .byte)) :: ws) ({ frames := 1, cells := 1, slots := 48, locals := 14 } : Room)) (fun a U => a = #[(.ref a1)] ∧ Z.Warmed39 U.vm ∧ U.heap = h0) (fun _ _ _ _ _ => True) (fun _ U o U' => ∃ v L, o = .returned v ∧ Q7 Z a1 c1 vs1 h0 n0 v U'.heap L ∧ FrameEnd U o U' L ({ frames := 1, cells := 1, slots := 48, locals := 14 } : Room).cells ({ frames := 1, cells := 1, slots := 48, locals := 14 } : Room).slots) := by
  refine MetFree.of_bodySF (plainFor_of_name pn_PinHash) hisR ?_
  intro p e s m args below meth c s₁ Bd hml0 hP hK
  obtain ⟨rfl, hZ, hh⟩ := hP
  have hx := Bd.exec
  have hby := Bd.bytes
  have hml : c.maxLocals = 1 := hml0
  have hown : s.vm.findClass "com/example/opaque_token/opaquetoken/token/PinHash" = some m.cls := findClass_of_methodNamed Bd.named
  have hnm := (name_of_methodNamed Bd.named Bd.method).1
  have hlk : meth.locks = false := BodyLoose.notSynchronized Bd
  have hret := Bd.returns
  have X0 : Stand p l e ({ frames := 1, cells := 1, slots := 48, locals := 14 } : Room) s m #[(.ref a1)] below meth c s₁ [] 0 0 := Stand.of_body Bd
  have e0 : s₁.heap = h0 := by rw [← hh, Bd.state]; rfl
  have N0 := Fr.nil n0
  refine ogo (U' := s₁.setTop (mkF m 0 #[.val (.ref a1)] [])) (Q := Q7 Z a1 c1 vs1 h0 n0) (K := ({ frames := 1, cells := 1, slots := 48, locals := 14 } : Room).cells) (N := ({ frames := 1, cells := 1, slots := 48, locals := 14 } : Room).slots) (fun t k => castTop (ef_7 m a1) k) ?_
  show OwnEnds _ _ _ _ _ _ _ (s₁.setTop (mkF m 0 #[.val (.ref a1)] []))
  refine ogo (fun t k => XS.aloadN X0.here hx rfl (hb hby d7_0) rfl rfl k) ?_
  show OwnEnds _ _ _ _ _ _ _ (s₁.setTop (mkF m 1 #[.val (.ref a1)] [(.ref a1)]))
  obtain ⟨T1, X1, e1, st1⟩ := getF X0 hx hZ hown (host := "") (Or.inl (hw _ (List.mem_of_getElem? (i := 27) rfl))) Via.refl e0 F_1 (g := (mkF m 1 #[.val (.ref a1)] [(.ref a1)])) rfl rfl (hb hby d7_1)
  refine ogo st1 ?_
  show OwnEnds _ _ _ _ _ _ _ (T1.setTop (mkF m 4 #[.val (.ref a1)] [(.ref c1)]))
  obtain ⟨kc2, Vc2⟩ := id V_1
  obtain ⟨T2, h2, X2, e2, E2, A2, B2, st2⟩ := cloneH X1 hx hZ hown (hw _ (List.mem_of_getElem? (i := 12) rfl)) (hw _ (List.mem_of_getElem? (i := 13) rfl)) (hw _ (List.mem_of_getElem? (i := 17) rfl)) (hw _ (List.mem_of_getElem? (i := 15) rfl)) (hw _ (List.mem_of_getElem? (i := 16) rfl)) (hw _ (List.mem_of_getElem? (i := 18) rfl)) e1 (Arv.arh Vc2) E_c (g := (mkF m 4 #[.val (.ref a1)] [(.ref c1)])) rfl (by rw [hml]; rfl) rfl (hb hby d7_4) (by decide) (W := 0) (cap := 48) (by show 2 * 0 + _ ≤ _; exact Nat.le_of_eq rfl) (by decide) (by decide) (by decide) (by decide)
  obtain ⟨b2, g2⟩ : ∃ z, z = h0.size := ⟨_, rfl⟩
  rw [← g2] at A2 B2 st2
  have ne_a1_b2 : a1 ≠ b2 := Nat.ne_of_lt (Nat.lt_of_lt_of_le (F_1).lt (Nat.le_of_eq g2.symm))
  have ne_c1_b2 : c1 ≠ b2 := Nat.ne_of_lt (Nat.lt_of_lt_of_le (V_1).lt (Nat.le_of_eq g2.symm))
  have q_b2 : n0 ≤ b2 := Nat.le_trans Z0 (Nat.le_of_eq g2.symm)
  have sz_b2 : h0.size ≤ b2 := Nat.le_trans (Keep.refl h0 []).1 (Nat.le_of_eq g2.symm)
  have f3 := F_1.ext E2
  have f4 := V_1.ext E2
  have f5 := E_c.ext E2
  have OLD6 := OLD.ext E2
  have K6 := (Keep.refl h0 []).ext E2
  have Z6 := Nat.le_trans Z0 E2.1
  have V2 : Arv Z h2 b2 kc2 .byte (48 : Int32) vs1 (.int (0 : Int32)) := A2
  refine ogo st2 ?_
  show OwnEnds _ _ _ _ _ _ _ (T2.setTop (mkF m 7 #[.val (.ref a1)] [(.ref b2)]))
  obtain ⟨T7, X7, e7, st7⟩ := castY X2 hx hZ hown (hw _ (List.mem_of_getElem? (i := 19) rfl)) e2 (Ins.self B2) (g := (mkF m 7 #[.val (.ref a1)] [(.ref b2)])) rfl rfl (hb hby d7_7)
  refine ogo st7 ?_
  show OwnEnds _ _ _ _ _ _ _ (T7.setTop (mkF m 10 #[.val (.ref a1)] [(.ref b2)]))
  refine endA X7 hx hlk hret rfl rfl (hb hby d7_10) (by decide) (by decide) ?_
  show Q7 Z a1 c1 vs1 h0 n0 _ T7.heap _
  rw [e7]
  exact ⟨b2, rfl, sz_b2, N0, K6, ⟨_, V2⟩, B2⟩
theorem d8_0 : decode prog_58_method_4_code 0 = .ok (.aload_n 0, 1) := by decide +kernel
theorem d8_1 : decode prog_58_method_4_code 1 = .ok (.getfield 11, 3) := by decide +kernel
theorem d8_4 : decode prog_58_method_4_code 4 = .ok (.invokevirtual 56, 3) := by decide +kernel
theorem d8_7 : decode prog_58_method_4_code 7 = .ok (.checkcast 57, 3) := by decide +kernel
theorem d8_10 : decode prog_58_method_4_code 10 = .ok (.areturn, 1) := by decide +kernel
theorem ef_8 (m : MethodId) (x0 : Addr) : entryFrame m #[(.ref x0)] 1 = mkF m 0 #[.val (.ref x0)] [] := by first | (simp [entryFrame, mkF, argsToLocals, Value.category]; done) | rfl
def Q8 (Z : State) (a1 c1 : Addr) (vs1 : List Value) (h0 : Heap) (n0 : Nat) (v : Option Value) (h : Heap) (L : List Loc) : Prop := ∃ r : Addr, v = some (.ref r) ∧ h0.size ≤ r ∧ Fr n0 L ∧ Keep h0 h [] ∧ Av Z h r .byte (0 : Int32) vs1 (.int (0 : Int32)) ∧ Exa Z h r "[B"
set_option maxRecDepth 65536 in
set_option maxHeartbeats 40000000 in
theorem rm8 (l : Launch) (Z : State) (a0 : Array Value) (hw : ∀ d ∈ tables_1, d.before a0 Z = true) (ws : List Jvm.Cond) (a1 c1 : Addr) (vs1 : List Value) (h0 : Heap) (n0 : Nat) (Z0 : n0 ≤ h0.size) (OLD : Old Z n0 h0) (F_1 : Fld Z h0 a1 "com/example/opaque_token/opaquetoken/token/PinHash" "stored" "[B" (.ref c1)) (V_1 : Av Z h0 c1 .byte (0 : Int32) vs1 (.int (0 : Int32))) (E_c : Exa Z h0 c1 "[B") :
    MetFree l (⟨"com/example/opaque_token/opaquetoken/token/PinHash", "stored", "()[B"⟩ : MethodName) (head1 (Jvm.Cond.code (⟨"com/example/opaque_token/opaquetoken/token/PinHash", "stored", "()[B"⟩ : MethodName) prog_58_method_4_code 1 (some (.array .byte)) :: ws) ({ frames := 1, cells := 1, slots := 0, locals := 14 } : Room)) (fun a U => a = #[(.ref a1)] ∧ Z.Warmed39 U.vm ∧ U.heap = h0) (fun _ _ _ _ _ => True) (fun _ U o U' => ∃ v L, o = .returned v ∧ Q8 Z a1 c1 vs1 h0 n0 v U'.heap L ∧ FrameEnd U o U' L ({ frames := 1, cells := 1, slots := 0, locals := 14 } : Room).cells ({ frames := 1, cells := 1, slots := 0, locals := 14 } : Room).slots) := by
  refine MetFree.of_bodySF (plainFor_of_name pn_PinHash) hisR ?_
  intro p e s m args below meth c s₁ Bd hml0 hP hK
  obtain ⟨rfl, hZ, hh⟩ := hP
  have hx := Bd.exec
  have hby := Bd.bytes
  have hml : c.maxLocals = 1 := hml0
  have hown : s.vm.findClass "com/example/opaque_token/opaquetoken/token/PinHash" = some m.cls := findClass_of_methodNamed Bd.named
  have hnm := (name_of_methodNamed Bd.named Bd.method).1
  have hlk : meth.locks = false := BodyLoose.notSynchronized Bd
  have hret := Bd.returns
  have X0 : Stand p l e ({ frames := 1, cells := 1, slots := 0, locals := 14 } : Room) s m #[(.ref a1)] below meth c s₁ [] 0 0 := Stand.of_body Bd
  have e0 : s₁.heap = h0 := by rw [← hh, Bd.state]; rfl
  have N0 := Fr.nil n0
  refine ogo (U' := s₁.setTop (mkF m 0 #[.val (.ref a1)] [])) (Q := Q8 Z a1 c1 vs1 h0 n0) (K := ({ frames := 1, cells := 1, slots := 0, locals := 14 } : Room).cells) (N := ({ frames := 1, cells := 1, slots := 0, locals := 14 } : Room).slots) (fun t k => castTop (ef_8 m a1) k) ?_
  show OwnEnds _ _ _ _ _ _ _ (s₁.setTop (mkF m 0 #[.val (.ref a1)] []))
  refine ogo (fun t k => XS.aloadN X0.here hx rfl (hb hby d8_0) rfl rfl k) ?_
  show OwnEnds _ _ _ _ _ _ _ (s₁.setTop (mkF m 1 #[.val (.ref a1)] [(.ref a1)]))
  obtain ⟨T1, X1, e1, st1⟩ := getF X0 hx hZ hown (host := "") (Or.inl (hw _ (List.mem_of_getElem? (i := 27) rfl))) Via.refl e0 F_1 (g := (mkF m 1 #[.val (.ref a1)] [(.ref a1)])) rfl rfl (hb hby d8_1)
  refine ogo st1 ?_
  show OwnEnds _ _ _ _ _ _ _ (T1.setTop (mkF m 4 #[.val (.ref a1)] [(.ref c1)]))
  obtain ⟨kc2, Vc2⟩ := id V_1
  obtain ⟨T2, h2, X2, e2, E2, A2, B2, st2⟩ := cloneH X1 hx hZ hown (hw _ (List.mem_of_getElem? (i := 12) rfl)) (hw _ (List.mem_of_getElem? (i := 13) rfl)) (hw _ (List.mem_of_getElem? (i := 17) rfl)) (hw _ (List.mem_of_getElem? (i := 15) rfl)) (hw _ (List.mem_of_getElem? (i := 16) rfl)) (hw _ (List.mem_of_getElem? (i := 18) rfl)) e1 (Arv.arh Vc2) E_c (g := (mkF m 4 #[.val (.ref a1)] [(.ref c1)])) rfl (by rw [hml]; rfl) rfl (hb hby d8_4) (by decide) (W := 0) (cap := 0) (by show 2 * 0 + _ ≤ _; exact Nat.le_of_eq rfl) (by decide) (by decide) (by decide) (by decide)
  obtain ⟨b2, g2⟩ : ∃ z, z = h0.size := ⟨_, rfl⟩
  rw [← g2] at A2 B2 st2
  have ne_a1_b2 : a1 ≠ b2 := Nat.ne_of_lt (Nat.lt_of_lt_of_le (F_1).lt (Nat.le_of_eq g2.symm))
  have ne_c1_b2 : c1 ≠ b2 := Nat.ne_of_lt (Nat.lt_of_lt_of_le (V_1).lt (Nat.le_of_eq g2.symm))
  have q_b2 : n0 ≤ b2 := Nat.le_trans Z0 (Nat.le_of_eq g2.symm)
  have sz_b2 : h0.size ≤ b2 := Nat.le_trans (Keep.refl h0 []).1 (Nat.le_of_eq g2.symm)
  have f3 := F_1.ext E2
  have f4 := V_1.ext E2
  have f5 := E_c.ext E2
  have OLD6 := OLD.ext E2
  have K6 := (Keep.refl h0 []).ext E2
  have Z6 := Nat.le_trans Z0 E2.1
  have V2 : Arv Z h2 b2 kc2 .byte (0 : Int32) vs1 (.int (0 : Int32)) := A2
  refine ogo st2 ?_
  show OwnEnds _ _ _ _ _ _ _ (T2.setTop (mkF m 7 #[.val (.ref a1)] [(.ref b2)]))
  obtain ⟨T7, X7, e7, st7⟩ := castY X2 hx hZ hown (hw _ (List.mem_of_getElem? (i := 19) rfl)) e2 (Ins.self B2) (g := (mkF m 7 #[.val (.ref a1)] [(.ref b2)])) rfl rfl (hb hby d8_7)
  refine ogo st7 ?_
  show OwnEnds _ _ _ _ _ _ _ (T7.setTop (mkF m 10 #[.val (.ref a1)] [(.ref b2)]))
  refine endA X7 hx hlk hret rfl rfl (hb hby d8_10) (by decide) (by decide) ?_
  show Q8 Z a1 c1 vs1 h0 n0 _ T7.heap _
  rw [e7]
  exact ⟨b2, rfl, sz_b2, N0, K6, ⟨_, V2⟩, B2⟩
theorem d9_0 : decode jdk_48_method_13_code 0 = .ok (.iconst 0, 1) := by decide +kernel
theorem d9_1 : decode jdk_48_method_13_code 1 = .ok (.istore_n 3, 1) := by decide +kernel
theorem d9_2 : decode jdk_48_method_13_code 2 = .ok (.iload_n 2, 1) := by decide +kernel
theorem d9_3 : decode jdk_48_method_13_code 3 = .ok (.bipush 7, 2) := by decide +kernel
theorem d9_5 : decode jdk_48_method_13_code 5 = .ok (.if_icmp .le 44, 3) := by decide +kernel
theorem d9_49 : decode jdk_48_method_13_code 49 = .ok (.iload_n 3, 1) := by decide +kernel
theorem d9_50 : decode jdk_48_method_13_code 50 = .ok (.iload_n 2, 1) := by decide +kernel
theorem d9_51 : decode jdk_48_method_13_code 51 = .ok (.if_icmp .ge 20, 3) := by decide +kernel
theorem d9_71 : decode jdk_48_method_13_code 71 = .ok (.iconst (-1), 1) := by decide +kernel
theorem d9_72 : decode jdk_48_method_13_code 72 = .ok (.ireturn, 1) := by decide +kernel
theorem pn_ArraysSupport : plainName "jdk/internal/util/ArraysSupport" = true := by first | (simp [plainName, overriddenIn]; done) | decide +kernel
theorem ef_9 (m : MethodId) (x0 : Addr) (x1 : Addr) (x2 : Int32) : entryFrame m #[(.ref x0), (.ref x1), (.int x2)] 4 = mkF m 0 #[.val (.ref x0), .val (.ref x1), .val (.int x2), .unset] [] := by first | (simp [entryFrame, mkF, argsToLocals, Value.category]; done) | rfl
def Q9 (Z : State) (a1 a2 : Addr) (h0 : Heap) (n0 : Nat) (v : Option Value) (h : Heap) (L : List Loc) : Prop := v = some (.int (-1)) ∧ Fr n0 L ∧ h = h0
set_option maxRecDepth 65536 in
set_option maxHeartbeats 40000000 in
theorem rm9 (l : Launch) (Z : State) (a0 : Array Value) (hw : ∀ d ∈ tables_1, d.before a0 Z = true) (ws : List Jvm.Cond) (a1 a2 : Addr) (h0 : Heap) (n0 : Nat) (Z0 : n0 ≤ h0.size) :
    MetFree l (⟨"jdk/internal/util/ArraysSupport", "mismatch", "([B[BI)I"⟩ : MethodName) (head1 (Jvm.Cond.code (⟨"jdk/internal/util/ArraysSupport", "mismatch", "([B[BI)I"⟩ : MethodName) jdk_48_method_13_code 4 (some .int) :: ws) ({ frames := 0, cells := 0, slots := 0, locals := 0 } : Room)) (fun a U => a = #[(.ref a1), (.ref a2), (.int (0 : Int32))] ∧ Z.Warmed39 U.vm ∧ U.heap = h0) (fun _ _ _ _ _ => True) (fun _ U o U' => ∃ v L, o = .returned v ∧ Q9 Z a1 a2 h0 n0 v U'.heap L ∧ FrameEnd U o U' L ({ frames := 0, cells := 0, slots := 0, locals := 0 } : Room).cells ({ frames := 0, cells := 0, slots := 0, locals := 0 } : Room).slots) := by
  refine MetFree.of_bodySF (plainFor_of_name pn_ArraysSupport) hisR ?_
  intro p e s m args below meth c s₁ Bd hml0 hP hK
  obtain ⟨rfl, hZ, hh⟩ := hP
  have hx := Bd.exec
  have hby := Bd.bytes
  have hml : c.maxLocals = 4 := hml0
  have hown : s.vm.findClass "jdk/internal/util/ArraysSupport" = some m.cls := findClass_of_methodNamed Bd.named
  have hnm := (name_of_methodNamed Bd.named Bd.method).1
  have hlk : meth.locks = false := BodyLoose.notSynchronized Bd
  have hret := Bd.returns
  have X0 : Stand p l e ({ frames := 0, cells := 0, slots := 0, locals := 0 } : Room) s m #[(.ref a1), (.ref a2), (.int (0 : Int32))] below meth c s₁ [] 0 0 := Stand.of_body Bd
  have e0 : s₁.heap = h0 := by rw [← hh, Bd.state]; rfl
  have N0 := Fr.nil n0
  refine ogo (U' := s₁.setTop (mkF m 0 #[.val (.ref a1), .val (.ref a2), .val (.int (0 : Int32)), .unset] [])) (Q := Q9 Z a1 a2 h0 n0) (K := ({ frames := 0, cells := 0, slots := 0, locals := 0 } : Room).cells) (N := ({ frames := 0, cells := 0, slots := 0, locals := 0 } : Room).slots) (fun t k => castTop (ef_9 m a1 a2 (0 : Int32)) k) ?_
  show OwnEnds _ _ _ _ _ _ _ (s₁.setTop (mkF m 0 #[.val (.ref a1), .val (.ref a2), .val (.int (0 : Int32)), .unset] []))
  refine ogo (fun t k => XS.iconst X0.here hx rfl (hb hby d9_0) k) ?_
  show OwnEnds _ _ _ _ _ _ _ (s₁.setTop (mkF m 1 #[.val (.ref a1), .val (.ref a2), .val (.int (0 : Int32)), .unset] [(.int (0 : Int32))]))
  refine ogo (fun t k => XS.istoreN X0.here hx rfl (hb hby d9_1) rfl (l' := #[.val (.ref a1), .val (.ref a2), .val (.int (0 : Int32)), .val (.int (0 : Int32))]) rfl k) ?_
  show OwnEnds _ _ _ _ _ _ _ (s₁.setTop (mkF m 2 #[.val (.ref a1), .val (.ref a2), .val (.int (0 : Int32)), .val (.int (0 : Int32))] []))
  refine ogo (fun t k => XS.iloadN X0.here hx rfl (hb hby d9_2) rfl k) ?_
  show OwnEnds _ _ _ _ _ _ _ (s₁.setTop (mkF m 3 #[.val (.ref a1), .val (.ref a2), .val (.int (0 : Int32)), .val (.int (0 : Int32))] [(.int (0 : Int32))]))
  refine ogo (fun t k => XS.bipush X0.here hx rfl (hb hby d9_3) k) ?_
  show OwnEnds _ _ _ _ _ _ _ (s₁.setTop (mkF m 5 #[.val (.ref a1), .val (.ref a2), .val (.int (0 : Int32)), .val (.int (0 : Int32))] [(.int (7 : Int32)), (.int (0 : Int32))]))
  refine ogo (fun t k => XS.icmpYes X0.here hx rfl (pc0 := 5) (pc' := 49) rfl (hb hby d9_5) rfl (flt (by decide : ¬ ((7 : Int32) < (0 : Int32)))).2.2.2 (by decide) (by decide) k) ?_
  show OwnEnds _ _ _ _ _ _ _ (s₁.setTop (mkF m 49 #[.val (.ref a1), .val (.ref a2), .val (.int (0 : Int32)), .val (.int (0 : Int32))] []))
  refine ogo (fun t k => XS.iloadN X0.here hx rfl (hb hby d9_49) rfl k) ?_
  show OwnEnds _ _ _ _ _ _ _ (s₁.setTop (mkF m 50 #[.val (.ref a1), .val (.ref a2), .val (.int (0 : Int32)), .val (.int (0 : Int32))] [(.int (0 : Int32))]))
  refine ogo (fun t k => XS.iloadN X0.here hx rfl (hb hby d9_50) rfl k) ?_
  show OwnEnds _ _ _ _ _ _ _ (s₁.setTop (mkF m 51 #[.val (.ref a1), .val (.ref a2), .val (.int (0 : Int32)), .val (.int (0 : Int32))] [(.int (0 : Int32)), (.int (0 : Int32))]))
  refine ogo (fun t k => XS.icmpYes X0.here hx rfl (pc0 := 51) (pc' := 71) rfl (hb hby d9_51) rfl (flt (by decide : ¬ ((0 : Int32) < (0 : Int32)))).2.1 (by decide) (by decide) k) ?_
  show OwnEnds _ _ _ _ _ _ _ (s₁.setTop (mkF m 71 #[.val (.ref a1), .val (.ref a2), .val (.int (0 : Int32)), .val (.int (0 : Int32))] []))
  refine ogo (fun t k => XS.iconst X0.here hx rfl (hb hby d9_71) k) ?_
  show OwnEnds _ _ _ _ _ _ _ (s₁.setTop (mkF m 72 #[.val (.ref a1), .val (.ref a2), .val (.int (0 : Int32)), .val (.int (0 : Int32))] [(.int (-1 : Int32))]))
  refine endI X0 hx hlk hret (hb hby d9_72) (by decide) (by decide) ?_
  show Q9 Z a1 a2 h0 n0 _ s₁.heap _
  rw [e0]
  exact ⟨by simp [], N0, rfl⟩
theorem d10_0 : decode jdk_65_method_89_code 0 = .ok (.aload_n 0, 1) := by decide +kernel
theorem d10_1 : decode jdk_65_method_89_code 1 = .ok (.aload_n 1, 1) := by decide +kernel
theorem d10_2 : decode jdk_65_method_89_code 2 = .ok (.if_acmp .ne 5, 3) := by decide +kernel
theorem d10_7 : decode jdk_65_method_89_code 7 = .ok (.aload_n 0, 1) := by decide +kernel
theorem d10_8 : decode jdk_65_method_89_code 8 = .ok (.ifnull 7, 3) := by decide +kernel
theorem d10_11 : decode jdk_65_method_89_code 11 = .ok (.aload_n 1, 1) := by decide +kernel
theorem d10_12 : decode jdk_65_method_89_code 12 = .ok (.ifnonnull 5, 3) := by decide +kernel
theorem d10_17 : decode jdk_65_method_89_code 17 = .ok (.aload_n 0, 1) := by decide +kernel
theorem d10_18 : decode jdk_65_method_89_code 18 = .ok (.arraylength, 1) := by decide +kernel
theorem d10_19 : decode jdk_65_method_89_code 19 = .ok (.istore_n 2, 1) := by decide +kernel
theorem d10_20 : decode jdk_65_method_89_code 20 = .ok (.aload_n 1, 1) := by decide +kernel
theorem d10_21 : decode jdk_65_method_89_code 21 = .ok (.arraylength, 1) := by decide +kernel
theorem d10_22 : decode jdk_65_method_89_code 22 = .ok (.iload_n 2, 1) := by decide +kernel
theorem d10_23 : decode jdk_65_method_89_code 23 = .ok (.if_icmp .eq 5, 3) := by decide +kernel
theorem d10_26 : decode jdk_65_method_89_code 26 = .ok (.iconst 0, 1) := by decide +kernel
theorem d10_27 : decode jdk_65_method_89_code 27 = .ok (.ireturn, 1) := by decide +kernel
theorem pn_Arrays : plainName "java/util/Arrays" = true := by first | (simp [plainName, overriddenIn]; done) | decide +kernel
theorem ef_10 (m : MethodId) (x0 : Addr) (x1 : Addr) : entryFrame m #[(.ref x0), (.ref x1)] 3 = mkF m 0 #[.val (.ref x0), .val (.ref x1), .unset] [] := by first | (simp [entryFrame, mkF, argsToLocals, Value.category]; done) | rfl
def Q10 (Z : State) (a1 a2 : Addr) (vs1 vs2 : List Value) (h0 : Heap) (n0 : Nat) (v : Option Value) (h : Heap) (L : List Loc) : Prop := v = some (.int 0) ∧ Fr n0 L ∧ h = h0
set_option maxRecDepth 65536 in
set_option maxHeartbeats 40000000 in
theorem rm10 (l : Launch) (Z : State) (a0 : Array Value) (hw : ∀ d ∈ tables_1, d.before a0 Z = true) (ws : List Jvm.Cond) (a1 a2 : Addr) (vs1 vs2 : List Value) (h0 : Heap) (n0 : Nat) (Z0 : n0 ≤ h0.size) (V_1 : Av Z h0 a1 .byte (48 : Int32) vs1 (.int (0 : Int32))) (V_2 : Av Z h0 a2 .byte (0 : Int32) vs2 (.int (0 : Int32))) (hne : ¬ (a1 = a2)) :
    MetFree l (⟨"java/util/Arrays", "equals", "([B[B)Z"⟩ : MethodName) (head1 (Jvm.Cond.code (⟨"java/util/Arrays", "equals", "([B[B)Z"⟩ : MethodName) jdk_65_method_89_code 3 (some .boolean) :: ws) ({ frames := 0, cells := 0, slots := 0, locals := 0 } : Room)) (fun a U => a = #[(.ref a1), (.ref a2)] ∧ Z.Warmed39 U.vm ∧ U.heap = h0) (fun _ _ _ _ _ => True) (fun _ U o U' => ∃ v L, o = .returned v ∧ Q10 Z a1 a2 vs1 vs2 h0 n0 v U'.heap L ∧ FrameEnd U o U' L ({ frames := 0, cells := 0, slots := 0, locals := 0 } : Room).cells ({ frames := 0, cells := 0, slots := 0, locals := 0 } : Room).slots) := by
  refine MetFree.of_bodySF (plainFor_of_name pn_Arrays) hisR ?_
  intro p e s m args below meth c s₁ Bd hml0 hP hK
  obtain ⟨rfl, hZ, hh⟩ := hP
  have hx := Bd.exec
  have hby := Bd.bytes
  have hml : c.maxLocals = 3 := hml0
  have hown : s.vm.findClass "java/util/Arrays" = some m.cls := findClass_of_methodNamed Bd.named
  have hnm := (name_of_methodNamed Bd.named Bd.method).1
  have hlk : meth.locks = false := BodyLoose.notSynchronized Bd
  have hret := Bd.returns
  have X0 : Stand p l e ({ frames := 0, cells := 0, slots := 0, locals := 0 } : Room) s m #[(.ref a1), (.ref a2)] below meth c s₁ [] 0 0 := Stand.of_body Bd
  have e0 : s₁.heap = h0 := by rw [← hh, Bd.state]; rfl
  have N0 := Fr.nil n0
  refine ogo (U' := s₁.setTop (mkF m 0 #[.val (.ref a1), .val (.ref a2), .unset] [])) (Q := Q10 Z a1 a2 vs1 vs2 h0 n0) (K := ({ frames := 0, cells := 0, slots := 0, locals := 0 } : Room).cells) (N := ({ frames := 0, cells := 0, slots := 0, locals := 0 } : Room).slots) (fun t k => castTop (ef_10 m a1 a2) k) ?_
  show OwnEnds _ _ _ _ _ _ _ (s₁.setTop (mkF m 0 #[.val (.ref a1), .val (.ref a2), .unset] []))
  refine ogo (fun t k => XS.aloadN X0.here hx rfl (hb hby d10_0) rfl rfl k) ?_
  show OwnEnds _ _ _ _ _ _ _ (s₁.setTop (mkF m 1 #[.val (.ref a1), .val (.ref a2), .unset] [(.ref a1)]))
  refine ogo (fun t k => XS.aloadN X0.here hx rfl (hb hby d10_1) rfl rfl k) ?_
  show OwnEnds _ _ _ _ _ _ _ (s₁.setTop (mkF m 2 #[.val (.ref a1), .val (.ref a2), .unset] [(.ref a2), (.ref a1)]))
  refine ogo (fun t k => Jvm.RoadKit.acmp (g := (mkF m 2 #[.val (.ref a1), .val (.ref a2), .unset] [(.ref a2), (.ref a1)])) X0 hx rfl rfl rfl (pc0 := 2) (pc' := 7) (same := false) rfl (hb hby d10_2) rfl (decide_eq_false fun q => hne (Value.ref.inj q)) (by decide) (by decide) k) ?_
  show OwnEnds _ _ _ _ _ _ _ (s₁.setTop (mkF m 7 #[.val (.ref a1), .val (.ref a2), .unset] []))
  refine ogo (fun t k => XS.aloadN X0.here hx rfl (hb hby d10_7) rfl rfl k) ?_
  show OwnEnds _ _ _ _ _ _ _ (s₁.setTop (mkF m 8 #[.val (.ref a1), .val (.ref a2), .unset] [(.ref a1)]))
  refine ogo (fun t k => XS.ifnullNo X0.here hx rfl (hb hby d10_8) rfl k) ?_
  show OwnEnds _ _ _ _ _ _ _ (s₁.setTop (mkF m 11 #[.val (.ref a1), .val (.ref a2), .unset] []))
  refine ogo (fun t k => XS.aloadN X0.here hx rfl (hb hby d10_11) rfl rfl k) ?_
  show OwnEnds _ _ _ _ _ _ _ (s₁.setTop (mkF m 12 #[.val (.ref a1), .val (.ref a2), .unset] [(.ref a2)]))
  refine ogo (fun t k => XS.ifnonnullYes X0.here hx rfl (pc0 := 12) (pc' := 17) rfl (hb hby d10_12) rfl (by decide) (by decide) k) ?_
  show OwnEnds _ _ _ _ _ _ _ (s₁.setTop (mkF m 17 #[.val (.ref a1), .val (.ref a2), .unset] []))
  refine ogo (fun t k => XS.aloadN X0.here hx rfl (hb hby d10_17) rfl rfl k) ?_
  show OwnEnds _ _ _ _ _ _ _ (s₁.setTop (mkF m 18 #[.val (.ref a1), .val (.ref a2), .unset] [(.ref a1)]))
  obtain ⟨ak1, cl1, Ar1, Aq1, As1, An1, Ah1, Ag1⟩ := id V_1
  refine ogo (fun t k => X0.arraylength hx (by rw [e0]; exact Ar1.1) (State.isArrayOf_alike hZ.alike Ar1.2.1) (g := (mkF m 18 #[.val (.ref a1), .val (.ref a2), .unset] [(.ref a1)])) rfl rfl (hb hby d10_18) t k) ?_
  rw [len_of As1 An1]
  show OwnEnds _ _ _ _ _ _ _ (s₁.setTop (mkF m 19 #[.val (.ref a1), .val (.ref a2), .unset] [(.int (48 : Int32))]))
  refine ogo (fun t k => XS.istoreN X0.here hx rfl (hb hby d10_19) rfl (l' := #[.val (.ref a1), .val (.ref a2), .val (.int (48 : Int32))]) rfl k) ?_
  show OwnEnds _ _ _ _ _ _ _ (s₁.setTop (mkF m 20 #[.val (.ref a1), .val (.ref a2), .val (.int (48 : Int32))] []))
  refine ogo (fun t k => XS.aloadN X0.here hx rfl (hb hby d10_20) rfl rfl k) ?_
  show OwnEnds _ _ _ _ _ _ _ (s₁.setTop (mkF m 21 #[.val (.ref a1), .val (.ref a2), .val (.int (48 : Int32))] [(.ref a2)]))
  obtain ⟨ak2, cl2, Ar2, Aq2, As2, An2, Ah2, Ag2⟩ := id V_2
  refine ogo (fun t k => X0.arraylength hx (by rw [e0]; exact Ar2.1) (State.isArrayOf_alike hZ.alike Ar2.2.1) (g := (mkF m 21 #[.val (.ref a1), .val (.ref a2), .val (.int (48 : Int32))] [(.ref a2)])) rfl rfl (hb hby d10_21) t k) ?_
  rw [len_of As2 An2]
  show OwnEnds _ _ _ _ _ _ _ (s₁.setTop (mkF m 22 #[.val (.ref a1), .val (.ref a2), .val (.int (48 : Int32))] [(.int (0 : Int32))]))
  refine ogo (fun t k => XS.iloadN X0.here hx rfl (hb hby d10_22) rfl k) ?_
  show OwnEnds _ _ _ _ _ _ _ (s₁.setTop (mkF m 23 #[.val (.ref a1), .val (.ref a2), .val (.int (48 : Int32))] [(.int (48 : Int32)), (.int (0 : Int32))]))
  refine ogo (fun t k => XS.icmpNo X0.here hx rfl (hb hby d10_23) rfl (feq (by decide : ¬ ((0 : Int32) = (48 : Int32)))).1 k) ?_
  show OwnEnds _ _ _ _ _ _ _ (s₁.setTop (mkF m 26 #[.val (.ref a1), .val (.ref a2), .val (.int (48 : Int32))] []))
  refine ogo (fun t k => XS.iconst X0.here hx rfl (hb hby d10_26) k) ?_
  show OwnEnds _ _ _ _ _ _ _ (s₁.setTop (mkF m 27 #[.val (.ref a1), .val (.ref a2), .val (.int (48 : Int32))] [(.int (0 : Int32))]))
  refine endZ X0 hx hlk hret rfl (hb hby d10_27) (by decide) (by decide) ?_
  show Q10 Z a1 a2 vs1 vs2 h0 n0 _ s₁.heap _
  rw [e0]
  exact ⟨by simp [], N0, rfl⟩
theorem d12_0 : decode prog_58_method_7_code 0 = .ok (.aload_n 1, 1) := by decide +kernel
theorem d12_1 : decode prog_58_method_7_code 1 = .ok (.instanceof 1, 3) := by decide +kernel
theorem d12_4 : decode prog_58_method_7_code 4 = .ok (.ifCond .eq 26, 3) := by decide +kernel
theorem d12_7 : decode prog_58_method_7_code 7 = .ok (.aload_n 1, 1) := by decide +kernel
theorem d12_8 : decode prog_58_method_7_code 8 = .ok (.checkcast 1, 3) := by decide +kernel
theorem d12_11 : decode prog_58_method_7_code 11 = .ok (.astore_n 2, 1) := by decide +kernel
theorem d12_12 : decode prog_58_method_7_code 12 = .ok (.aload_n 0, 1) := by decide +kernel
theorem d12_13 : decode prog_58_method_7_code 13 = .ok (.getfield 11, 3) := by decide +kernel
theorem d12_16 : decode prog_58_method_7_code 16 = .ok (.aload_n 2, 1) := by decide +kernel
theorem d12_17 : decode prog_58_method_7_code 17 = .ok (.getfield 11, 3) := by decide +kernel
theorem d12_20 : decode prog_58_method_7_code 20 = .ok (.invokestatic 90, 3) := by decide +kernel
theorem d12_23 : decode prog_58_method_7_code 23 = .ok (.ifCond .eq 7, 3) := by decide +kernel
theorem d12_30 : decode prog_58_method_7_code 30 = .ok (.iconst 0, 1) := by decide +kernel
theorem d12_31 : decode prog_58_method_7_code 31 = .ok (.ireturn, 1) := by decide +kernel
theorem pd___B_B_Z : parseMethodDescriptor "([B[B)Z" = some ⟨[(.array .byte), (.array .byte)], some .boolean⟩ := by decide +kernel
theorem ef_12 (m : MethodId) (x0 : Addr) (x1 : Addr) : entryFrame m #[(.ref x0), (.ref x1)] 3 = mkF m 0 #[.val (.ref x0), .val (.ref x1), .unset] [] := by first | (simp [entryFrame, mkF, argsToLocals, Value.category]; done) | rfl
def Q12 (Z : State) (a1 a2 c1 c2 : Addr) (vs1 vs2 : List Value) (h0 : Heap) (n0 : Nat) (v : Option Value) (h : Heap) (L : List Loc) : Prop := v = some (.int 0) ∧ Fr n0 L ∧ h = h0
set_option maxRecDepth 65536 in
set_option maxHeartbeats 40000000 in
theorem rm12 (l : Launch) (Z : State) (a0 : Array Value) (hw : ∀ d ∈ tables_1, d.before a0 Z = true) (ws : List Jvm.Cond) (a1 a2 c1 c2 : Addr) (vs1 vs2 : List Value) (h0 : Heap) (n0 : Nat) (Z0 : n0 ≤ h0.size) (E_2 : Exa Z h0 a2 "com/example/opaque_token/opaquetoken/token/PinHash") (F_1 : Fld Z h0 a1 "com/example/opaque_token/opaquetoken/token/PinHash" "stored" "[B" (.ref c1)) (F_2 : Fld Z h0 a2 "com/example/opaque_token/opaquetoken/token/PinHash" "stored" "[B" (.ref c2)) (V_1 : Av Z h0 c1 .byte (48 : Int32) vs1 (.int (0 : Int32))) (V_2 : Av Z h0 c2 .byte (0 : Int32) vs2 (.int (0 : Int32))) (hne : ¬ (c1 = c2)) :
    MetFree l (⟨"com/example/opaque_token/opaquetoken/token/PinHash", "equals", "(Ljava/lang/Object;)Z"⟩ : MethodName) (head1 (Jvm.Cond.code (⟨"com/example/opaque_token/opaquetoken/token/PinHash", "equals", "(Ljava/lang/Object;)Z"⟩ : MethodName) prog_58_method_7_code 3 (some .boolean) :: ws) ({ frames := 1, cells := 0, slots := 0, locals := 14 } : Room)) (fun a U => a = #[(.ref a1), (.ref a2)] ∧ Z.Warmed39 U.vm ∧ U.heap = h0) (fun _ _ _ _ _ => True) (fun _ U o U' => ∃ v L, o = .returned v ∧ Q12 Z a1 a2 c1 c2 vs1 vs2 h0 n0 v U'.heap L ∧ FrameEnd U o U' L ({ frames := 1, cells := 0, slots := 0, locals := 14 } : Room).cells ({ frames := 1, cells := 0, slots := 0, locals := 14 } : Room).slots) := by
  refine MetFree.of_bodySF (plainFor_of_name pn_PinHash) hisR ?_
  intro p e s m args below meth c s₁ Bd hml0 hP hK
  obtain ⟨rfl, hZ, hh⟩ := hP
  have hx := Bd.exec
  have hby := Bd.bytes
  have hml : c.maxLocals = 3 := hml0
  have hown : s.vm.findClass "com/example/opaque_token/opaquetoken/token/PinHash" = some m.cls := findClass_of_methodNamed Bd.named
  have hnm := (name_of_methodNamed Bd.named Bd.method).1
  have hlk : meth.locks = false := BodyLoose.notSynchronized Bd
  have hret := Bd.returns
  have X0 : Stand p l e ({ frames := 1, cells := 0, slots := 0, locals := 14 } : Room) s m #[(.ref a1), (.ref a2)] below meth c s₁ [] 0 0 := Stand.of_body Bd
  have e0 : s₁.heap = h0 := by rw [← hh, Bd.state]; rfl
  have N0 := Fr.nil n0
  refine ogo (U' := s₁.setTop (mkF m 0 #[.val (.ref a1), .val (.ref a2), .unset] [])) (Q := Q12 Z a1 a2 c1 c2 vs1 vs2 h0 n0) (K := ({ frames := 1, cells := 0, slots := 0, locals := 14 } : Room).cells) (N := ({ frames := 1, cells := 0, slots := 0, locals := 14 } : Room).slots) (fun t k => castTop (ef_12 m a1 a2) k) ?_
  show OwnEnds _ _ _ _ _ _ _ (s₁.setTop (mkF m 0 #[.val (.ref a1), .val (.ref a2), .unset] []))
  refine ogo (fun t k => XS.aloadN X0.here hx rfl (hb hby d12_0) rfl rfl k) ?_
  show OwnEnds _ _ _ _ _ _ _ (s₁.setTop (mkF m 1 #[.val (.ref a1), .val (.ref a2), .unset] [(.ref a2)]))
  obtain ⟨T1, X1, e1, st1⟩ := instY X0 hx hZ hown (hw _ (List.mem_of_getElem? (i := 10) rfl)) e0 (Ins.self E_2) (g := (mkF m 1 #[.val (.ref a1), .val (.ref a2), .unset] [(.ref a2)])) rfl rfl (hb hby d12_1)
  refine ogo st1 ?_
  show OwnEnds _ _ _ _ _ _ _ (T1.setTop (mkF m 4 #[.val (.ref a1), .val (.ref a2), .unset] [(.int (1 : Int32))]))
  refine ogo (fun t k => XS.ifNo X1.here hx rfl (hb hby d12_4) rfl ((if0 _ _).trans (feq (by decide : ¬ ((1 : Int32) = (0 : Int32)))).1) k) ?_
  show OwnEnds _ _ _ _ _ _ _ (T1.setTop (mkF m 7 #[.val (.ref a1), .val (.ref a2), .unset] []))
  refine ogo (fun t k => XS.aloadN X1.here hx rfl (hb hby d12_7) rfl rfl k) ?_
  show OwnEnds _ _ _ _ _ _ _ (T1.setTop (mkF m 8 #[.val (.ref a1), .val (.ref a2), .unset] [(.ref a2)]))
  obtain ⟨T2, X2, e2, st2⟩ := castY X1 hx hZ hown (hw _ (List.mem_of_getElem? (i := 10) rfl)) e1 (Ins.self E_2) (g := (mkF m 8 #[.val (.ref a1), .val (.ref a2), .unset] [(.ref a2)])) rfl rfl (hb hby d12_8)
  refine ogo st2 ?_
  show OwnEnds _ _ _ _ _ _ _ (T2.setTop (mkF m 11 #[.val (.ref a1), .val (.ref a2), .unset] [(.ref a2)]))
  refine ogo (fun t k => XS.astoreN X2.here hx rfl (hb hby d12_11) rfl rfl (l' := #[.val (.ref a1), .val (.ref a2), .val (.ref a2)]) rfl k) ?_
  show OwnEnds _ _ _ _ _ _ _ (T2.setTop (mkF m 12 #[.val (.ref a1), .val (.ref a2), .val (.ref a2)] []))
  refine ogo (fun t k => XS.aloadN X2.here hx rfl (hb hby d12_12) rfl rfl k) ?_
  show OwnEnds _ _ _ _ _ _ _ (T2.setTop (mkF m 13 #[.val (.ref a1), .val (.ref a2), .val (.ref a2)] [(.ref a1)]))
  obtain ⟨T3, X3, e3, st3⟩ := getF X2 hx hZ hown (host := "") (Or.inl (hw _ (List.mem_of_getElem? (i := 27) rfl))) Via.refl e2 F_1 (g := (mkF m 13 #[.val (.ref a1), .val (.ref a2), .val (.ref a2)] [(.ref a1)])) rfl rfl (hb hby d12_13)
  refine ogo st3 ?_
  show OwnEnds _ _ _ _ _ _ _ (T3.setTop (mkF m 16 #[.val (.ref a1), .val (.ref a2), .val (.ref a2)] [(.ref c1)]))
  refine ogo (fun t k => XS.aloadN X3.here hx rfl (hb hby d12_16) rfl rfl k) ?_
  show OwnEnds _ _ _ _ _ _ _ (T3.setTop (mkF m 17 #[.val (.ref a1), .val (.ref a2), .val (.ref a2)] [(.ref a2), (.ref c1)]))
  obtain ⟨T4, X4, e4, st4⟩ := getF X3 hx hZ hown (host := "") (Or.inl (hw _ (List.mem_of_getElem? (i := 27) rfl))) Via.refl e3 F_2 (g := (mkF m 17 #[.val (.ref a1), .val (.ref a2), .val (.ref a2)] [(.ref a2), (.ref c1)])) rfl rfl (hb hby d12_17)
  refine ogo st4 ?_
  show OwnEnds _ _ _ _ _ _ _ (T4.setTop (mkF m 20 #[.val (.ref a1), .val (.ref a2), .val (.ref a2)] [(.ref c2), (.ref c1)]))
  obtain ⟨v5, _, ⟨T5, L5, k5, n5⟩, -, X5, ⟨Lc5, hQ5, l5, y5, z5⟩, st5⟩ := Jvm.LawKit.callS X4 hx (y := (⟨"java/util/Arrays", "equals", "([B[B)Z"⟩ : MethodName)) hown (mvT hZ (hw _ (List.mem_of_getElem? (i := 48) rfl))) (mvT hZ (hw _ (List.mem_of_getElem? (i := 49) rfl))) (mvT hZ (hw _ (List.mem_of_getElem? (i := 50) rfl))) (mvT hZ (hw _ (List.mem_of_getElem? (i := 51) rfl))) (by decide) (backOf (W := 0) (rm10 l Z a0 hw [] c1 c2 vs1 vs2 h0 n0 Z0 V_1 V_2 hne) hZ (hw _ (List.mem_of_getElem? (i := 51) rfl)) (hw _ (List.mem_of_getElem? (i := 50) rfl)) (by decide) (by decide)) (g := (mkF m 20 #[.val (.ref a1), .val (.ref a2), .val (.ref a2)] [(.ref c2), (.ref c1)])) rfl (by rw [hml]; rfl) (argsL := [(.ref c1), (.ref c2)]) (rest := []) (lenOf pd___B_B_Z rfl) rfl (by show 2 * 0 + _ ≤ _; exact Nat.le_of_eq rfl) (hb hby d12_20) (fun _ _ => ⟨rfl, e4, (by decide : 0 + 0 ≤ _), (by decide : 0 + 0 ≤ _)⟩)
  dsimp only [Pt.U, Pt.locs, Pt.cells, Pt.slots] at X5 l5 y5 z5 st5 hQ5
  subst l5 y5 z5
  obtain ⟨rfl, N5q, e5⟩ := hQ5
  have N5 := Fr.app N0 N5q
  refine ogo (fun t k => st5 t k) ?_
  show OwnEnds _ _ _ _ _ _ _ (T5.setTop (mkF m 23 #[.val (.ref a1), .val (.ref a2), .val (.ref a2)] [(.int (0 : Int32))]))
  refine ogo (fun t k => XS.ifYes X5.here hx rfl (pc0 := 23) (pc' := 30) rfl (hb hby d12_23) rfl ((if0 _ _).trans (teq (by decide : (0 : Int32) = (0 : Int32))).1) (by decide) (by decide) k) ?_
  show OwnEnds _ _ _ _ _ _ _ (T5.setTop (mkF m 30 #[.val (.ref a1), .val (.ref a2), .val (.ref a2)] []))
  refine ogo (fun t k => XS.iconst X5.here hx rfl (hb hby d12_30) k) ?_
  show OwnEnds _ _ _ _ _ _ _ (T5.setTop (mkF m 31 #[.val (.ref a1), .val (.ref a2), .val (.ref a2)] [(.int (0 : Int32))]))
  refine endZ X5 hx hlk hret rfl (hb hby d12_31) (by decide) (by decide) ?_
  show Q12 Z a1 a2 c1 c2 vs1 vs2 h0 n0 _ T5.heap _
  rw [e5]
  exact ⟨by simp [], N5, rfl⟩
theorem d11_0 : decode jdk_65_method_89_code 0 = .ok (.aload_n 0, 1) := by decide +kernel
theorem d11_1 : decode jdk_65_method_89_code 1 = .ok (.aload_n 1, 1) := by decide +kernel
theorem d11_2 : decode jdk_65_method_89_code 2 = .ok (.if_acmp .ne 5, 3) := by decide +kernel
theorem d11_7 : decode jdk_65_method_89_code 7 = .ok (.aload_n 0, 1) := by decide +kernel
theorem d11_8 : decode jdk_65_method_89_code 8 = .ok (.ifnull 7, 3) := by decide +kernel
theorem d11_11 : decode jdk_65_method_89_code 11 = .ok (.aload_n 1, 1) := by decide +kernel
theorem d11_12 : decode jdk_65_method_89_code 12 = .ok (.ifnonnull 5, 3) := by decide +kernel
theorem d11_17 : decode jdk_65_method_89_code 17 = .ok (.aload_n 0, 1) := by decide +kernel
theorem d11_18 : decode jdk_65_method_89_code 18 = .ok (.arraylength, 1) := by decide +kernel
theorem d11_19 : decode jdk_65_method_89_code 19 = .ok (.istore_n 2, 1) := by decide +kernel
theorem d11_20 : decode jdk_65_method_89_code 20 = .ok (.aload_n 1, 1) := by decide +kernel
theorem d11_21 : decode jdk_65_method_89_code 21 = .ok (.arraylength, 1) := by decide +kernel
theorem d11_22 : decode jdk_65_method_89_code 22 = .ok (.iload_n 2, 1) := by decide +kernel
theorem d11_23 : decode jdk_65_method_89_code 23 = .ok (.if_icmp .eq 5, 3) := by decide +kernel
theorem d11_28 : decode jdk_65_method_89_code 28 = .ok (.aload_n 0, 1) := by decide +kernel
theorem d11_29 : decode jdk_65_method_89_code 29 = .ok (.aload_n 1, 1) := by decide +kernel
theorem d11_30 : decode jdk_65_method_89_code 30 = .ok (.iload_n 2, 1) := by decide +kernel
theorem d11_31 : decode jdk_65_method_89_code 31 = .ok (.invokestatic 272, 3) := by decide +kernel
theorem d11_34 : decode jdk_65_method_89_code 34 = .ok (.ifCond .ge 7, 3) := by decide +kernel
theorem d11_37 : decode jdk_65_method_89_code 37 = .ok (.iconst 1, 1) := by decide +kernel
theorem d11_38 : decode jdk_65_method_89_code 38 = .ok (.goto 4, 3) := by decide +kernel
theorem d11_42 : decode jdk_65_method_89_code 42 = .ok (.ireturn, 1) := by decide +kernel
theorem pd___B_BI_I : parseMethodDescriptor "([B[BI)I" = some ⟨[(.array .byte), (.array .byte), .int], some .int⟩ := by decide +kernel
theorem ef_11 (m : MethodId) (x0 : Addr) (x1 : Addr) : entryFrame m #[(.ref x0), (.ref x1)] 3 = mkF m 0 #[.val (.ref x0), .val (.ref x1), .unset] [] := by first | (simp [entryFrame, mkF, argsToLocals, Value.category]; done) | rfl
def Q11 (Z : State) (a1 a2 : Addr) (vs1 vs2 : List Value) (h0 : Heap) (n0 : Nat) (v : Option Value) (h : Heap) (L : List Loc) : Prop := v = some (.int 1) ∧ Fr n0 L ∧ h = h0
set_option maxRecDepth 65536 in
set_option maxHeartbeats 40000000 in
theorem rm11 (l : Launch) (Z : State) (a0 : Array Value) (hw : ∀ d ∈ tables_1, d.before a0 Z = true) (ws : List Jvm.Cond) (a1 a2 : Addr) (vs1 vs2 : List Value) (h0 : Heap) (n0 : Nat) (Z0 : n0 ≤ h0.size) (V_1 : Av Z h0 a1 .byte (0 : Int32) vs1 (.int (0 : Int32))) (V_2 : Av Z h0 a2 .byte (0 : Int32) vs2 (.int (0 : Int32))) (hne : ¬ (a1 = a2)) :
    MetFree l (⟨"java/util/Arrays", "equals", "([B[B)Z"⟩ : MethodName) (head1 (Jvm.Cond.code (⟨"java/util/Arrays", "equals", "([B[B)Z"⟩ : MethodName) jdk_65_method_89_code 3 (some .boolean) :: ws) ({ frames := 1, cells := 0, slots := 0, locals := 15 } : Room)) (fun a U => a = #[(.ref a1), (.ref a2)] ∧ Z.Warmed39 U.vm ∧ U.heap = h0) (fun _ _ _ _ _ => True) (fun _ U o U' => ∃ v L, o = .returned v ∧ Q11 Z a1 a2 vs1 vs2 h0 n0 v U'.heap L ∧ FrameEnd U o U' L ({ frames := 1, cells := 0, slots := 0, locals := 15 } : Room).cells ({ frames := 1, cells := 0, slots := 0, locals := 15 } : Room).slots) := by
  refine MetFree.of_bodySF (plainFor_of_name pn_Arrays) hisR ?_
  intro p e s m args below meth c s₁ Bd hml0 hP hK
  obtain ⟨rfl, hZ, hh⟩ := hP
  have hx := Bd.exec
  have hby := Bd.bytes
  have hml : c.maxLocals = 3 := hml0
  have hown : s.vm.findClass "java/util/Arrays" = some m.cls := findClass_of_methodNamed Bd.named
  have hnm := (name_of_methodNamed Bd.named Bd.method).1
  have hlk : meth.locks = false := BodyLoose.notSynchronized Bd
  have hret := Bd.returns
  have X0 : Stand p l e ({ frames := 1, cells := 0, slots := 0, locals := 15 } : Room) s m #[(.ref a1), (.ref a2)] below meth c s₁ [] 0 0 := Stand.of_body Bd
  have e0 : s₁.heap = h0 := by rw [← hh, Bd.state]; rfl
  have N0 := Fr.nil n0
  refine ogo (U' := s₁.setTop (mkF m 0 #[.val (.ref a1), .val (.ref a2), .unset] [])) (Q := Q11 Z a1 a2 vs1 vs2 h0 n0) (K := ({ frames := 1, cells := 0, slots := 0, locals := 15 } : Room).cells) (N := ({ frames := 1, cells := 0, slots := 0, locals := 15 } : Room).slots) (fun t k => castTop (ef_11 m a1 a2) k) ?_
  show OwnEnds _ _ _ _ _ _ _ (s₁.setTop (mkF m 0 #[.val (.ref a1), .val (.ref a2), .unset] []))
  refine ogo (fun t k => XS.aloadN X0.here hx rfl (hb hby d11_0) rfl rfl k) ?_
  show OwnEnds _ _ _ _ _ _ _ (s₁.setTop (mkF m 1 #[.val (.ref a1), .val (.ref a2), .unset] [(.ref a1)]))
  refine ogo (fun t k => XS.aloadN X0.here hx rfl (hb hby d11_1) rfl rfl k) ?_
  show OwnEnds _ _ _ _ _ _ _ (s₁.setTop (mkF m 2 #[.val (.ref a1), .val (.ref a2), .unset] [(.ref a2), (.ref a1)]))
  refine ogo (fun t k => Jvm.RoadKit.acmp (g := (mkF m 2 #[.val (.ref a1), .val (.ref a2), .unset] [(.ref a2), (.ref a1)])) X0 hx rfl rfl rfl (pc0 := 2) (pc' := 7) (same := false) rfl (hb hby d11_2) rfl (decide_eq_false fun q => hne (Value.ref.inj q)) (by decide) (by decide) k) ?_
  show OwnEnds _ _ _ _ _ _ _ (s₁.setTop (mkF m 7 #[.val (.ref a1), .val (.ref a2), .unset] []))
  refine ogo (fun t k => XS.aloadN X0.here hx rfl (hb hby d11_7) rfl rfl k) ?_
  show OwnEnds _ _ _ _ _ _ _ (s₁.setTop (mkF m 8 #[.val (.ref a1), .val (.ref a2), .unset] [(.ref a1)]))
  refine ogo (fun t k => XS.ifnullNo X0.here hx rfl (hb hby d11_8) rfl k) ?_
  show OwnEnds _ _ _ _ _ _ _ (s₁.setTop (mkF m 11 #[.val (.ref a1), .val (.ref a2), .unset] []))
  refine ogo (fun t k => XS.aloadN X0.here hx rfl (hb hby d11_11) rfl rfl k) ?_
  show OwnEnds _ _ _ _ _ _ _ (s₁.setTop (mkF m 12 #[.val (.ref a1), .val (.ref a2), .unset] [(.ref a2)]))
  refine ogo (fun t k => XS.ifnonnullYes X0.here hx rfl (pc0 := 12) (pc' := 17) rfl (hb hby d11_12) rfl (by decide) (by decide) k) ?_
  show OwnEnds _ _ _ _ _ _ _ (s₁.setTop (mkF m 17 #[.val (.ref a1), .val (.ref a2), .unset] []))
  refine ogo (fun t k => XS.aloadN X0.here hx rfl (hb hby d11_17) rfl rfl k) ?_
  show OwnEnds _ _ _ _ _ _ _ (s₁.setTop (mkF m 18 #[.val (.ref a1), .val (.ref a2), .unset] [(.ref a1)]))
  obtain ⟨ak1, cl1, Ar1, Aq1, As1, An1, Ah1, Ag1⟩ := id V_1
  refine ogo (fun t k => X0.arraylength hx (by rw [e0]; exact Ar1.1) (State.isArrayOf_alike hZ.alike Ar1.2.1) (g := (mkF m 18 #[.val (.ref a1), .val (.ref a2), .unset] [(.ref a1)])) rfl rfl (hb hby d11_18) t k) ?_
  rw [len_of As1 An1]
  show OwnEnds _ _ _ _ _ _ _ (s₁.setTop (mkF m 19 #[.val (.ref a1), .val (.ref a2), .unset] [(.int (0 : Int32))]))
  refine ogo (fun t k => XS.istoreN X0.here hx rfl (hb hby d11_19) rfl (l' := #[.val (.ref a1), .val (.ref a2), .val (.int (0 : Int32))]) rfl k) ?_
  show OwnEnds _ _ _ _ _ _ _ (s₁.setTop (mkF m 20 #[.val (.ref a1), .val (.ref a2), .val (.int (0 : Int32))] []))
  refine ogo (fun t k => XS.aloadN X0.here hx rfl (hb hby d11_20) rfl rfl k) ?_
  show OwnEnds _ _ _ _ _ _ _ (s₁.setTop (mkF m 21 #[.val (.ref a1), .val (.ref a2), .val (.int (0 : Int32))] [(.ref a2)]))
  obtain ⟨ak2, cl2, Ar2, Aq2, As2, An2, Ah2, Ag2⟩ := id V_2
  refine ogo (fun t k => X0.arraylength hx (by rw [e0]; exact Ar2.1) (State.isArrayOf_alike hZ.alike Ar2.2.1) (g := (mkF m 21 #[.val (.ref a1), .val (.ref a2), .val (.int (0 : Int32))] [(.ref a2)])) rfl rfl (hb hby d11_21) t k) ?_
  rw [len_of As2 An2]
  show OwnEnds _ _ _ _ _ _ _ (s₁.setTop (mkF m 22 #[.val (.ref a1), .val (.ref a2), .val (.int (0 : Int32))] [(.int (0 : Int32))]))
  refine ogo (fun t k => XS.iloadN X0.here hx rfl (hb hby d11_22) rfl k) ?_
  show OwnEnds _ _ _ _ _ _ _ (s₁.setTop (mkF m 23 #[.val (.ref a1), .val (.ref a2), .val (.int (0 : Int32))] [(.int (0 : Int32)), (.int (0 : Int32))]))
  refine ogo (fun t k => XS.icmpYes X0.here hx rfl (pc0 := 23) (pc' := 28) rfl (hb hby d11_23) rfl (teq (by decide : (0 : Int32) = (0 : Int32))).1 (by decide) (by decide) k) ?_
  show OwnEnds _ _ _ _ _ _ _ (s₁.setTop (mkF m 28 #[.val (.ref a1), .val (.ref a2), .val (.int (0 : Int32))] []))
  refine ogo (fun t k => XS.aloadN X0.here hx rfl (hb hby d11_28) rfl rfl k) ?_
  show OwnEnds _ _ _ _ _ _ _ (s₁.setTop (mkF m 29 #[.val (.ref a1), .val (.ref a2), .val (.int (0 : Int32))] [(.ref a1)]))
  refine ogo (fun t k => XS.aloadN X0.here hx rfl (hb hby d11_29) rfl rfl k) ?_
  show OwnEnds _ _ _ _ _ _ _ (s₁.setTop (mkF m 30 #[.val (.ref a1), .val (.ref a2), .val (.int (0 : Int32))] [(.ref a2), (.ref a1)]))
  refine ogo (fun t k => XS.iloadN X0.here hx rfl (hb hby d11_30) rfl k) ?_
  show OwnEnds _ _ _ _ _ _ _ (s₁.setTop (mkF m 31 #[.val (.ref a1), .val (.ref a2), .val (.int (0 : Int32))] [(.int (0 : Int32)), (.ref a2), (.ref a1)]))
  obtain ⟨v3, _, ⟨T3, L3, k3, n3⟩, -, X3, ⟨Lc3, hQ3, l3, y3, z3⟩, st3⟩ := Jvm.LawKit.callS X0 hx (y := (⟨"jdk/internal/util/ArraysSupport", "mismatch", "([B[BI)I"⟩ : MethodName)) hown (mvT hZ (hw _ (List.mem_of_getElem? (i := 52) rfl))) (mvT hZ (hw _ (List.mem_of_getElem? (i := 53) rfl))) (mvT hZ (hw _ (List.mem_of_getElem? (i := 54) rfl))) (mvT hZ (hw _ (List.mem_of_getElem? (i := 55) rfl))) (by decide) (backOf (W := 0) (rm9 l Z a0 hw [] a1 a2 h0 n0 Z0 ) hZ (hw _ (List.mem_of_getElem? (i := 55) rfl)) (hw _ (List.mem_of_getElem? (i := 54) rfl)) (by decide) (by decide)) (g := (mkF m 31 #[.val (.ref a1), .val (.ref a2), .val (.int (0 : Int32))] [(.int (0 : Int32)), (.ref a2), (.ref a1)])) rfl (by rw [hml]; rfl) (argsL := [(.ref a1), (.ref a2), (.int (0 : Int32))]) (rest := []) (lenOf pd___B_BI_I rfl) rfl (by show 2 * 0 + _ ≤ _; exact Nat.le_of_eq rfl) (hb hby d11_31) (fun _ _ => ⟨rfl, e0, (by decide : 0 + 0 ≤ _), (by decide : 0 + 0 ≤ _)⟩)
  dsimp only [Pt.U, Pt.locs, Pt.cells, Pt.slots] at X3 l3 y3 z3 st3 hQ3
  subst l3 y3 z3
  obtain ⟨rfl, N3q, e3⟩ := hQ3
  have N3 := Fr.app N0 N3q
  refine ogo (fun t k => st3 t k) ?_
  show OwnEnds _ _ _ _ _ _ _ (T3.setTop (mkF m 34 #[.val (.ref a1), .val (.ref a2), .val (.int (0 : Int32))] [(.int (-1 : Int32))]))
  refine ogo (fun t k => XS.ifNo X3.here hx rfl (hb hby d11_34) rfl ((if0 _ _).trans (tlt (by decide : (-1 : Int32) < (0 : Int32))).2.1) k) ?_
  show OwnEnds _ _ _ _ _ _ _ (T3.setTop (mkF m 37 #[.val (.ref a1), .val (.ref a2), .val (.int (0 : Int32))] []))
  refine ogo (fun t k => XS.iconst X3.here hx rfl (hb hby d11_37) k) ?_
  show OwnEnds _ _ _ _ _ _ _ (T3.setTop (mkF m 38 #[.val (.ref a1), .val (.ref a2), .val (.int (0 : Int32))] [(.int (1 : Int32))]))
  refine ogo (fun t k => XS.goto X3.here hx rfl (pc0 := 38) (pc' := 42) rfl (hb hby d11_38) (by decide) (by decide) k) ?_
  show OwnEnds _ _ _ _ _ _ _ (T3.setTop (mkF m 42 #[.val (.ref a1), .val (.ref a2), .val (.int (0 : Int32))] [(.int (1 : Int32))]))
  refine endZ X3 hx hlk hret rfl (hb hby d11_42) (by decide) (by decide) ?_
  show Q11 Z a1 a2 vs1 vs2 h0 n0 _ T3.heap _
  rw [e3]
  exact ⟨by simp [], N3, rfl⟩
theorem d13_0 : decode prog_58_method_7_code 0 = .ok (.aload_n 1, 1) := by decide +kernel
theorem d13_1 : decode prog_58_method_7_code 1 = .ok (.instanceof 1, 3) := by decide +kernel
theorem d13_4 : decode prog_58_method_7_code 4 = .ok (.ifCond .eq 26, 3) := by decide +kernel
theorem d13_7 : decode prog_58_method_7_code 7 = .ok (.aload_n 1, 1) := by decide +kernel
theorem d13_8 : decode prog_58_method_7_code 8 = .ok (.checkcast 1, 3) := by decide +kernel
theorem d13_11 : decode prog_58_method_7_code 11 = .ok (.astore_n 2, 1) := by decide +kernel
theorem d13_12 : decode prog_58_method_7_code 12 = .ok (.aload_n 0, 1) := by decide +kernel
theorem d13_13 : decode prog_58_method_7_code 13 = .ok (.getfield 11, 3) := by decide +kernel
theorem d13_16 : decode prog_58_method_7_code 16 = .ok (.aload_n 2, 1) := by decide +kernel
theorem d13_17 : decode prog_58_method_7_code 17 = .ok (.getfield 11, 3) := by decide +kernel
theorem d13_20 : decode prog_58_method_7_code 20 = .ok (.invokestatic 90, 3) := by decide +kernel
theorem d13_23 : decode prog_58_method_7_code 23 = .ok (.ifCond .eq 7, 3) := by decide +kernel
theorem d13_26 : decode prog_58_method_7_code 26 = .ok (.iconst 1, 1) := by decide +kernel
theorem d13_27 : decode prog_58_method_7_code 27 = .ok (.goto 4, 3) := by decide +kernel
theorem d13_31 : decode prog_58_method_7_code 31 = .ok (.ireturn, 1) := by decide +kernel
theorem ef_13 (m : MethodId) (x0 : Addr) (x1 : Addr) : entryFrame m #[(.ref x0), (.ref x1)] 3 = mkF m 0 #[.val (.ref x0), .val (.ref x1), .unset] [] := by first | (simp [entryFrame, mkF, argsToLocals, Value.category]; done) | rfl
def Q13 (Z : State) (a1 a2 c1 c2 : Addr) (vs1 vs2 : List Value) (h0 : Heap) (n0 : Nat) (v : Option Value) (h : Heap) (L : List Loc) : Prop := v = some (.int 1) ∧ Fr n0 L ∧ h = h0
set_option maxRecDepth 65536 in
set_option maxHeartbeats 40000000 in
theorem rm13 (l : Launch) (Z : State) (a0 : Array Value) (hw : ∀ d ∈ tables_1, d.before a0 Z = true) (ws : List Jvm.Cond) (a1 a2 c1 c2 : Addr) (vs1 vs2 : List Value) (h0 : Heap) (n0 : Nat) (Z0 : n0 ≤ h0.size) (E_2 : Exa Z h0 a2 "com/example/opaque_token/opaquetoken/token/PinHash") (F_1 : Fld Z h0 a1 "com/example/opaque_token/opaquetoken/token/PinHash" "stored" "[B" (.ref c1)) (F_2 : Fld Z h0 a2 "com/example/opaque_token/opaquetoken/token/PinHash" "stored" "[B" (.ref c2)) (V_1 : Av Z h0 c1 .byte (0 : Int32) vs1 (.int (0 : Int32))) (V_2 : Av Z h0 c2 .byte (0 : Int32) vs2 (.int (0 : Int32))) (hne : ¬ (c1 = c2)) :
    MetFree l (⟨"com/example/opaque_token/opaquetoken/token/PinHash", "equals", "(Ljava/lang/Object;)Z"⟩ : MethodName) (head1 (Jvm.Cond.code (⟨"com/example/opaque_token/opaquetoken/token/PinHash", "equals", "(Ljava/lang/Object;)Z"⟩ : MethodName) prog_58_method_7_code 3 (some .boolean) :: ws) ({ frames := 2, cells := 0, slots := 0, locals := 29 } : Room)) (fun a U => a = #[(.ref a1), (.ref a2)] ∧ Z.Warmed39 U.vm ∧ U.heap = h0) (fun _ _ _ _ _ => True) (fun _ U o U' => ∃ v L, o = .returned v ∧ Q13 Z a1 a2 c1 c2 vs1 vs2 h0 n0 v U'.heap L ∧ FrameEnd U o U' L ({ frames := 2, cells := 0, slots := 0, locals := 29 } : Room).cells ({ frames := 2, cells := 0, slots := 0, locals := 29 } : Room).slots) := by
  refine MetFree.of_bodySF (plainFor_of_name pn_PinHash) hisR ?_
  intro p e s m args below meth c s₁ Bd hml0 hP hK
  obtain ⟨rfl, hZ, hh⟩ := hP
  have hx := Bd.exec
  have hby := Bd.bytes
  have hml : c.maxLocals = 3 := hml0
  have hown : s.vm.findClass "com/example/opaque_token/opaquetoken/token/PinHash" = some m.cls := findClass_of_methodNamed Bd.named
  have hnm := (name_of_methodNamed Bd.named Bd.method).1
  have hlk : meth.locks = false := BodyLoose.notSynchronized Bd
  have hret := Bd.returns
  have X0 : Stand p l e ({ frames := 2, cells := 0, slots := 0, locals := 29 } : Room) s m #[(.ref a1), (.ref a2)] below meth c s₁ [] 0 0 := Stand.of_body Bd
  have e0 : s₁.heap = h0 := by rw [← hh, Bd.state]; rfl
  have N0 := Fr.nil n0
  refine ogo (U' := s₁.setTop (mkF m 0 #[.val (.ref a1), .val (.ref a2), .unset] [])) (Q := Q13 Z a1 a2 c1 c2 vs1 vs2 h0 n0) (K := ({ frames := 2, cells := 0, slots := 0, locals := 29 } : Room).cells) (N := ({ frames := 2, cells := 0, slots := 0, locals := 29 } : Room).slots) (fun t k => castTop (ef_13 m a1 a2) k) ?_
  show OwnEnds _ _ _ _ _ _ _ (s₁.setTop (mkF m 0 #[.val (.ref a1), .val (.ref a2), .unset] []))
  refine ogo (fun t k => XS.aloadN X0.here hx rfl (hb hby d13_0) rfl rfl k) ?_
  show OwnEnds _ _ _ _ _ _ _ (s₁.setTop (mkF m 1 #[.val (.ref a1), .val (.ref a2), .unset] [(.ref a2)]))
  obtain ⟨T1, X1, e1, st1⟩ := instY X0 hx hZ hown (hw _ (List.mem_of_getElem? (i := 10) rfl)) e0 (Ins.self E_2) (g := (mkF m 1 #[.val (.ref a1), .val (.ref a2), .unset] [(.ref a2)])) rfl rfl (hb hby d13_1)
  refine ogo st1 ?_
  show OwnEnds _ _ _ _ _ _ _ (T1.setTop (mkF m 4 #[.val (.ref a1), .val (.ref a2), .unset] [(.int (1 : Int32))]))
  refine ogo (fun t k => XS.ifNo X1.here hx rfl (hb hby d13_4) rfl ((if0 _ _).trans (feq (by decide : ¬ ((1 : Int32) = (0 : Int32)))).1) k) ?_
  show OwnEnds _ _ _ _ _ _ _ (T1.setTop (mkF m 7 #[.val (.ref a1), .val (.ref a2), .unset] []))
  refine ogo (fun t k => XS.aloadN X1.here hx rfl (hb hby d13_7) rfl rfl k) ?_
  show OwnEnds _ _ _ _ _ _ _ (T1.setTop (mkF m 8 #[.val (.ref a1), .val (.ref a2), .unset] [(.ref a2)]))
  obtain ⟨T2, X2, e2, st2⟩ := castY X1 hx hZ hown (hw _ (List.mem_of_getElem? (i := 10) rfl)) e1 (Ins.self E_2) (g := (mkF m 8 #[.val (.ref a1), .val (.ref a2), .unset] [(.ref a2)])) rfl rfl (hb hby d13_8)
  refine ogo st2 ?_
  show OwnEnds _ _ _ _ _ _ _ (T2.setTop (mkF m 11 #[.val (.ref a1), .val (.ref a2), .unset] [(.ref a2)]))
  refine ogo (fun t k => XS.astoreN X2.here hx rfl (hb hby d13_11) rfl rfl (l' := #[.val (.ref a1), .val (.ref a2), .val (.ref a2)]) rfl k) ?_
  show OwnEnds _ _ _ _ _ _ _ (T2.setTop (mkF m 12 #[.val (.ref a1), .val (.ref a2), .val (.ref a2)] []))
  refine ogo (fun t k => XS.aloadN X2.here hx rfl (hb hby d13_12) rfl rfl k) ?_
  show OwnEnds _ _ _ _ _ _ _ (T2.setTop (mkF m 13 #[.val (.ref a1), .val (.ref a2), .val (.ref a2)] [(.ref a1)]))
  obtain ⟨T3, X3, e3, st3⟩ := getF X2 hx hZ hown (host := "") (Or.inl (hw _ (List.mem_of_getElem? (i := 27) rfl))) Via.refl e2 F_1 (g := (mkF m 13 #[.val (.ref a1), .val (.ref a2), .val (.ref a2)] [(.ref a1)])) rfl rfl (hb hby d13_13)
  refine ogo st3 ?_
  show OwnEnds _ _ _ _ _ _ _ (T3.setTop (mkF m 16 #[.val (.ref a1), .val (.ref a2), .val (.ref a2)] [(.ref c1)]))
  refine ogo (fun t k => XS.aloadN X3.here hx rfl (hb hby d13_16) rfl rfl k) ?_
  show OwnEnds _ _ _ _ _ _ _ (T3.setTop (mkF m 17 #[.val (.ref a1), .val (.ref a2), .val (.ref a2)] [(.ref a2), (.ref c1)]))
  obtain ⟨T4, X4, e4, st4⟩ := getF X3 hx hZ hown (host := "") (Or.inl (hw _ (List.mem_of_getElem? (i := 27) rfl))) Via.refl e3 F_2 (g := (mkF m 17 #[.val (.ref a1), .val (.ref a2), .val (.ref a2)] [(.ref a2), (.ref c1)])) rfl rfl (hb hby d13_17)
  refine ogo st4 ?_
  show OwnEnds _ _ _ _ _ _ _ (T4.setTop (mkF m 20 #[.val (.ref a1), .val (.ref a2), .val (.ref a2)] [(.ref c2), (.ref c1)]))
  obtain ⟨v5, _, ⟨T5, L5, k5, n5⟩, -, X5, ⟨Lc5, hQ5, l5, y5, z5⟩, st5⟩ := Jvm.LawKit.callS X4 hx (y := (⟨"java/util/Arrays", "equals", "([B[B)Z"⟩ : MethodName)) hown (mvT hZ (hw _ (List.mem_of_getElem? (i := 48) rfl))) (mvT hZ (hw _ (List.mem_of_getElem? (i := 49) rfl))) (mvT hZ (hw _ (List.mem_of_getElem? (i := 50) rfl))) (mvT hZ (hw _ (List.mem_of_getElem? (i := 51) rfl))) (by decide) (backOf (W := 0) (rm11 l Z a0 hw [] c1 c2 vs1 vs2 h0 n0 Z0 V_1 V_2 hne) hZ (hw _ (List.mem_of_getElem? (i := 51) rfl)) (hw _ (List.mem_of_getElem? (i := 50) rfl)) (by decide) (by decide)) (g := (mkF m 20 #[.val (.ref a1), .val (.ref a2), .val (.ref a2)] [(.ref c2), (.ref c1)])) rfl (by rw [hml]; rfl) (argsL := [(.ref c1), (.ref c2)]) (rest := []) (lenOf pd___B_B_Z rfl) rfl (by show 2 * 0 + _ ≤ _; exact Nat.le_of_eq rfl) (hb hby d13_20) (fun _ _ => ⟨rfl, e4, (by decide : 0 + 0 ≤ _), (by decide : 0 + 0 ≤ _)⟩)
  dsimp only [Pt.U, Pt.locs, Pt.cells, Pt.slots] at X5 l5 y5 z5 st5 hQ5
  subst l5 y5 z5
  obtain ⟨rfl, N5q, e5⟩ := hQ5
  have N5 := Fr.app N0 N5q
  refine ogo (fun t k => st5 t k) ?_
  show OwnEnds _ _ _ _ _ _ _ (T5.setTop (mkF m 23 #[.val (.ref a1), .val (.ref a2), .val (.ref a2)] [(.int (1 : Int32))]))
  refine ogo (fun t k => XS.ifNo X5.here hx rfl (hb hby d13_23) rfl ((if0 _ _).trans (feq (by decide : ¬ ((1 : Int32) = (0 : Int32)))).1) k) ?_
  show OwnEnds _ _ _ _ _ _ _ (T5.setTop (mkF m 26 #[.val (.ref a1), .val (.ref a2), .val (.ref a2)] []))
  refine ogo (fun t k => XS.iconst X5.here hx rfl (hb hby d13_26) k) ?_
  show OwnEnds _ _ _ _ _ _ _ (T5.setTop (mkF m 27 #[.val (.ref a1), .val (.ref a2), .val (.ref a2)] [(.int (1 : Int32))]))
  refine ogo (fun t k => XS.goto X5.here hx rfl (pc0 := 27) (pc' := 31) rfl (hb hby d13_27) (by decide) (by decide) k) ?_
  show OwnEnds _ _ _ _ _ _ _ (T5.setTop (mkF m 31 #[.val (.ref a1), .val (.ref a2), .val (.ref a2)] [(.int (1 : Int32))]))
  refine endZ X5 hx hlk hret rfl (hb hby d13_31) (by decide) (by decide) ?_
  show Q13 Z a1 a2 c1 c2 vs1 vs2 h0 n0 _ T5.heap _
  rw [e5]
  exact ⟨by simp [], N5, rfl⟩
def own_all (q0 q1 q2 q3 q4 q5 : Int64) : List Value := (own_put (own_put (own_put (own_put (own_put (own_put own_z 0 q0) 8 q1) 16 q2) 24 q3) 32 q4) 40 q5)
theorem own_all_int (q0 q1 q2 q3 q4 q5 : Int64) : IntsL (own_all q0 q1 q2 q3 q4 q5) := (IntsL.put (IntsL.put (IntsL.put (IntsL.put (IntsL.put (IntsL.put IntsL.z _ _) _ _) _ _) _ _) _ _) _ _)
theorem own_all_0 (q0 q1 q2 q3 q4 q5 : Int64) : own_get (own_all q0 q1 q2 q3 q4 q5) 0 = q0 := by
  unfold own_all
  rw [own_get_far (by omega), own_get_far (by omega), own_get_far (by omega), own_get_far (by omega), own_get_far (by omega), own_get_same (by rw [show own_z.length = 48 from rfl]; decide)]
theorem own_all_1 (q0 q1 q2 q3 q4 q5 : Int64) : own_get (own_all q0 q1 q2 q3 q4 q5) 8 = q1 := by
  unfold own_all
  rw [own_get_far (by omega), own_get_far (by omega), own_get_far (by omega), own_get_far (by omega), own_get_same (by rw [own_put_len, show own_z.length = 48 from rfl]; decide)]
theorem own_all_2 (q0 q1 q2 q3 q4 q5 : Int64) : own_get (own_all q0 q1 q2 q3 q4 q5) 16 = q2 := by
  unfold own_all
  rw [own_get_far (by omega), own_get_far (by omega), own_get_far (by omega), own_get_same (by rw [own_put_len, own_put_len, show own_z.length = 48 from rfl]; decide)]
theorem own_all_3 (q0 q1 q2 q3 q4 q5 : Int64) : own_get (own_all q0 q1 q2 q3 q4 q5) 24 = q3 := by
  unfold own_all
  rw [own_get_far (by omega), own_get_far (by omega), own_get_same (by rw [own_put_len, own_put_len, own_put_len, show own_z.length = 48 from rfl]; decide)]
theorem own_all_4 (q0 q1 q2 q3 q4 q5 : Int64) : own_get (own_all q0 q1 q2 q3 q4 q5) 32 = q4 := by
  unfold own_all
  rw [own_get_far (by omega), own_get_same (by rw [own_put_len, own_put_len, own_put_len, own_put_len, show own_z.length = 48 from rfl]; decide)]
theorem own_all_5 (q0 q1 q2 q3 q4 q5 : Int64) : own_get (own_all q0 q1 q2 q3 q4 q5) 40 = q5 := by
  unfold own_all
  rw [own_get_same (by rw [own_put_len, own_put_len, own_put_len, own_put_len, own_put_len, show own_z.length = 48 from rfl]; decide)]
theorem pd___BIJ_V : parseMethodDescriptor "([BIJ)V" = some ⟨[(.array .byte), .int, .long], none⟩ := by decide +kernel
theorem pd___B_Lcom_example_opaque_token_opaquetoken_token_PinHash_ : parseMethodDescriptor "([B)Lcom/example/opaque_token/opaquetoken/token/PinHash;" = some ⟨[(.array .byte)], some (.object "com/example/opaque_token/opaquetoken/token/PinHash")⟩ := by decide +kernel
theorem pd____B : parseMethodDescriptor "()[B" = some ⟨[], some (.array .byte)⟩ := by decide +kernel
theorem pd___BJJJJJJ_Z : parseMethodDescriptor "([BJJJJJJ)Z" = some ⟨[(.array .byte), .long, .long, .long, .long, .long, .long], some .boolean⟩ := by decide +kernel
theorem pd__Ljava_lang_Object__Z : parseMethodDescriptor "(Ljava/lang/Object;)Z" = some ⟨[(.object "java/lang/Object")], some .boolean⟩ := by decide +kernel
theorem ef_0 (m : MethodId) (x0 : Int64) (x1 : Int64) (x2 : Int64) (x3 : Int64) (x4 : Int64) (x5 : Int64) : entryFrame m #[(.long x0), (.long x1), (.long x2), (.long x3), (.long x4), (.long x5)] maxLocals = mkF m 0 #[.val (.long x0), .second, .val (.long x1), .second, .val (.long x2), .second, .val (.long x3), .second, .val (.long x4), .second, .val (.long x5), .second, .unset, .unset, .unset, .unset, .unset, .unset, .unset, .unset] [] := by first | (simp [entryFrame, mkF, argsToLocals, Value.category, maxLocals]; done) | rfl
def Q0 (Z : State) (q0 q1 q2 q3 q4 q5 : Int64) (w_NONE w_S : Addr) (h0 : Heap) (n0 : Nat) (v : Option Value) (h : Heap) (L : List Loc) : Prop := v = some (.int 1) ∧ Fr n0 L
set_option maxRecDepth 65536 in
set_option maxHeartbeats 40000000 in
theorem rm0 (l : Launch) (Z : State) (a0 : Array Value) (hw : ∀ d ∈ tables_1, d.before a0 Z = true) (ws : List Jvm.Cond) (q0 q1 q2 q3 q4 q5 : Int64) (w_NONE w_S : Addr) (h0 : Heap) (n0 : Nat) (Z0 : n0 ≤ h0.size) (OLD : Old Z n0 h0) (S_N : Sta Z Z.heap "com/example/opaque_token/opaquetoken/token/PinHash" "NONE" "Lcom/example/opaque_token/opaquetoken/token/PinHash;" (.ref w_NONE)) (E_N : Exa Z Z.heap w_NONE "com/example/opaque_token/opaquetoken/token/PinHash") (F_N : Fld Z Z.heap w_NONE "com/example/opaque_token/opaquetoken/token/PinHash" "stored" "[B" (.ref w_S)) (V_S : Av Z Z.heap w_S .byte (0 : Int32) [] (.int (0 : Int32))) :
    MetFree l x (head1 (Jvm.Cond.code x code maxLocals ret :: ws) room_1) (fun a U => a = #[(.long q0), (.long q1), (.long q2), (.long q3), (.long q4), (.long q5)] ∧ Z.Warmed39 U.vm ∧ U.heap = h0) (fun _ _ _ _ _ => True) (fun _ U o U' => ∃ v L, o = .returned v ∧ Q0 Z q0 q1 q2 q3 q4 q5 w_NONE w_S h0 n0 v U'.heap L ∧ FrameEnd U o U' L 32 512) := by
  refine MetFree.of_bodySF (plainFor_of_name pn_PinHashOfStoredPinLaw) hisR ?_
  intro p e s m args below meth c s₁ Bd hml0 hP hK
  obtain ⟨rfl, hZ, hh⟩ := hP
  have hx := Bd.exec
  have hby := Bd.bytes
  have hml : c.maxLocals = 20 := hml0
  have hown : s.vm.findClass "com/example/opaque_token/opaquetoken/token/PinHashOfStoredPinLaw" = some m.cls := findClass_of_methodNamed Bd.named
  have hnm := (name_of_methodNamed Bd.named Bd.method).1
  have hlk : meth.locks = false := BodyLoose.notSynchronized Bd
  have hret := Bd.returns
  have X0 : Stand p l e room_1 s m #[(.long q0), (.long q1), (.long q2), (.long q3), (.long q4), (.long q5)] below meth c s₁ [] 0 0 := Stand.of_body Bd
  have e0 : s₁.heap = h0 := by rw [← hh, Bd.state]; rfl
  have N0 := Fr.nil n0
  refine ogo (U' := s₁.setTop (mkF m 0 #[.val (.long q0), .second, .val (.long q1), .second, .val (.long q2), .second, .val (.long q3), .second, .val (.long q4), .second, .val (.long q5), .second, .unset, .unset, .unset, .unset, .unset, .unset, .unset, .unset] [])) (Q := Q0 Z q0 q1 q2 q3 q4 q5 w_NONE w_S h0 n0) (K := 32) (N := 512) (fun t k => castTop (ef_0 m q0 q1 q2 q3 q4 q5) k) ?_
  show OwnEnds _ _ _ _ _ _ _ (s₁.setTop (mkF m 0 #[.val (.long q0), .second, .val (.long q1), .second, .val (.long q2), .second, .val (.long q3), .second, .val (.long q4), .second, .val (.long q5), .second, .unset, .unset, .unset, .unset, .unset, .unset, .unset, .unset] []))
  refine ogo (fun t k => XS.bipush X0.here hx rfl (hb hby at_0) k) ?_
  show OwnEnds _ _ _ _ _ _ _ (s₁.setTop (mkF m 2 #[.val (.long q0), .second, .val (.long q1), .second, .val (.long q2), .second, .val (.long q3), .second, .val (.long q4), .second, .val (.long q5), .second, .unset, .unset, .unset, .unset, .unset, .unset, .unset, .unset] [(.int (48 : Int32))]))
  obtain ⟨T1, h1, k1, X1, e1, E1, A1, B1, st1⟩ := newPE X0 hx hZ (hw _ (List.mem_of_getElem? (i := 0) rfl)) e0 (g := (mkF m 2 #[.val (.long q0), .second, .val (.long q1), .second, .val (.long q2), .second, .val (.long q3), .second, .val (.long q4), .second, .val (.long q5), .second, .unset, .unset, .unset, .unset, .unset, .unset, .unset, .unset] [(.int (48 : Int32))])) rfl (hb hby at_2) rfl (by decide) (cap := 48) (by decide) (by decide) (by decide) (by decide) (ad := "[B") (by decide)
  obtain ⟨b1, g1⟩ : ∃ z, z = h0.size := ⟨_, rfl⟩
  rw [← g1] at A1 B1 st1
  have q_b1 : n0 ≤ b1 := Nat.le_trans Z0 (Nat.le_of_eq g1.symm)
  have sz_b1 : h0.size ≤ b1 := Nat.le_trans (Keep.refl h0 []).1 (Nat.le_of_eq g1.symm)
  have OLD2 := OLD.ext E1
  have K2 := (Keep.refl h0 []).ext E1
  have Z2 := Nat.le_trans Z0 E1.1
  have V1 : Arv Z h1 b1 k1 .byte (48 : Int32) [(.int (0 : Int32)), (.int (0 : Int32)), (.int (0 : Int32)), (.int (0 : Int32)), (.int (0 : Int32)), (.int (0 : Int32)), (.int (0 : Int32)), (.int (0 : Int32)), (.int (0 : Int32)), (.int (0 : Int32)), (.int (0 : Int32)), (.int (0 : Int32)), (.int (0 : Int32)), (.int (0 : Int32)), (.int (0 : Int32)), (.int (0 : Int32)), (.int (0 : Int32)), (.int (0 : Int32)), (.int (0 : Int32)), (.int (0 : Int32)), (.int (0 : Int32)), (.int (0 : Int32)), (.int (0 : Int32)), (.int (0 : Int32)), (.int (0 : Int32)), (.int (0 : Int32)), (.int (0 : Int32)), (.int (0 : Int32)), (.int (0 : Int32)), (.int (0 : Int32)), (.int (0 : Int32)), (.int (0 : Int32)), (.int (0 : Int32)), (.int (0 : Int32)), (.int (0 : Int32)), (.int (0 : Int32)), (.int (0 : Int32)), (.int (0 : Int32)), (.int (0 : Int32)), (.int (0 : Int32)), (.int (0 : Int32)), (.int (0 : Int32)), (.int (0 : Int32)), (.int (0 : Int32)), (.int (0 : Int32)), (.int (0 : Int32)), (.int (0 : Int32)), (.int (0 : Int32))] (.int (0 : Int32)) := (Arv.new A1 (by decide)).pad (pad_rep [] (.int (0 : Int32)) 48)
  have Vz3 : Av Z h1 b1 .byte (48 : Int32) own_z (.int (0 : Int32)) := ⟨_, V1⟩
  refine ogo st1 ?_
  show OwnEnds _ _ _ _ _ _ _ (T1.setTop (mkF m 4 #[.val (.long q0), .second, .val (.long q1), .second, .val (.long q2), .second, .val (.long q3), .second, .val (.long q4), .second, .val (.long q5), .second, .unset, .unset, .unset, .unset, .unset, .unset, .unset, .unset] [(.ref b1)]))
  refine ogo (fun t k => XS.astore X1.here hx rfl (hb hby at_4) rfl rfl (l' := #[.val (.long q0), .second, .val (.long q1), .second, .val (.long q2), .second, .val (.long q3), .second, .val (.long q4), .second, .val (.long q5), .second, .val (.ref b1), .unset, .unset, .unset, .unset, .unset, .unset, .unset]) rfl k) ?_
  show OwnEnds _ _ _ _ _ _ _ (T1.setTop (mkF m 6 #[.val (.long q0), .second, .val (.long q1), .second, .val (.long q2), .second, .val (.long q3), .second, .val (.long q4), .second, .val (.long q5), .second, .val (.ref b1), .unset, .unset, .unset, .unset, .unset, .unset, .unset] []))
  refine ogo (fun t k => XS.aload X1.here hx rfl (hb hby at_6) rfl rfl k) ?_
  show OwnEnds _ _ _ _ _ _ _ (T1.setTop (mkF m 8 #[.val (.long q0), .second, .val (.long q1), .second, .val (.long q2), .second, .val (.long q3), .second, .val (.long q4), .second, .val (.long q5), .second, .val (.ref b1), .unset, .unset, .unset, .unset, .unset, .unset, .unset] [(.ref b1)]))
  refine ogo (fun t k => XS.iconst X1.here hx rfl (hb hby at_8) k) ?_
  show OwnEnds _ _ _ _ _ _ _ (T1.setTop (mkF m 9 #[.val (.long q0), .second, .val (.long q1), .second, .val (.long q2), .second, .val (.long q3), .second, .val (.long q4), .second, .val (.long q5), .second, .val (.ref b1), .unset, .unset, .unset, .unset, .unset, .unset, .unset] [(.int (0 : Int32)), (.ref b1)]))
  refine ogo (fun t k => XS.lloadN X1.here hx rfl (hb hby at_9) rfl k) ?_
  show OwnEnds _ _ _ _ _ _ _ (T1.setTop (mkF m 10 #[.val (.long q0), .second, .val (.long q1), .second, .val (.long q2), .second, .val (.long q3), .second, .val (.long q4), .second, .val (.long q5), .second, .val (.ref b1), .unset, .unset, .unset, .unset, .unset, .unset, .unset] [(.long q0), (.int (0 : Int32)), (.ref b1)]))
  obtain ⟨v4, _, ⟨T4, L4, k4, n4⟩, -, X4, ⟨Lc4, hQ4, l4, y4, z4⟩, st4⟩ := Jvm.LawKit.callS X1 hx (y := (⟨"com/example/opaque_token/opaquetoken/token/PinHashOfStoredPinLaw", "put", "([BIJ)V"⟩ : MethodName)) hown (mvT hZ (hw _ (List.mem_of_getElem? (i := 1) rfl))) (mvT hZ (hw _ (List.mem_of_getElem? (i := 2) rfl))) (mvT hZ (hw _ (List.mem_of_getElem? (i := 3) rfl))) (mvT hZ (hw _ (List.mem_of_getElem? (i := 4) rfl))) (by decide) (backOf (W := 0) (rm1 l Z a0 hw [] b1 (0 : Int32) q0 own_z h1 n0 Z2 OLD2 Vz3 q_b1 rfl (by decide)) hZ (hw _ (List.mem_of_getElem? (i := 4) rfl)) (hw _ (List.mem_of_getElem? (i := 3) rfl)) (by decide) (by decide)) (g := (mkF m 10 #[.val (.long q0), .second, .val (.long q1), .second, .val (.long q2), .second, .val (.long q3), .second, .val (.long q4), .second, .val (.long q5), .second, .val (.ref b1), .unset, .unset, .unset, .unset, .unset, .unset, .unset] [(.long q0), (.int (0 : Int32)), (.ref b1)])) rfl (by rw [hml]; rfl) (argsL := [(.ref b1), (.int (0 : Int32)), (.long q0)]) (rest := []) (lenOf pd___BIJ_V rfl) rfl (by show 2 * 0 + _ ≤ _; exact Nat.le_of_eq rfl) (hb hby at_10) (fun _ _ => ⟨rfl, e1, (by decide : 1 + 0 ≤ _), (by decide : 48 + 0 ≤ _)⟩)
  dsimp only [Pt.U, Pt.locs, Pt.cells, Pt.slots] at X4 l4 y4 z4 st4 hQ4
  subst l4 y4 z4
  obtain ⟨rfl, N4q, Kq4, Vq4⟩ := hQ4
  have N4 := Fr.app N0 N4q
  have f5 := B1.keep Kq4
  have OLD6 := OLD2.keep Kq4 (allS q_b1 all0)
  have K6 := K2.trans Kq4 (allS (Or.inr sz_b1) all0)
  have Z6 := Nat.le_trans Z2 Kq4.1
  have Vp4 : Av Z T4.heap b1 .byte (48 : Int32) (own_put own_z 0 q0) (.int (0 : Int32)) := Vq4
  refine ogo (fun t k => st4 t k) ?_
  show OwnEnds _ _ _ _ _ _ _ (T4.setTop (mkF m 13 #[.val (.long q0), .second, .val (.long q1), .second, .val (.long q2), .second, .val (.long q3), .second, .val (.long q4), .second, .val (.long q5), .second, .val (.ref b1), .unset, .unset, .unset, .unset, .unset, .unset, .unset] []))
  refine ogo (fun t k => XS.aload X4.here hx rfl (hb hby at_13) rfl rfl k) ?_
  show OwnEnds _ _ _ _ _ _ _ (T4.setTop (mkF m 15 #[.val (.long q0), .second, .val (.long q1), .second, .val (.long q2), .second, .val (.long q3), .second, .val (.long q4), .second, .val (.long q5), .second, .val (.ref b1), .unset, .unset, .unset, .unset, .unset, .unset, .unset] [(.ref b1)]))
  refine ogo (fun t k => XS.bipush X4.here hx rfl (hb hby at_15) k) ?_
  show OwnEnds _ _ _ _ _ _ _ (T4.setTop (mkF m 17 #[.val (.long q0), .second, .val (.long q1), .second, .val (.long q2), .second, .val (.long q3), .second, .val (.long q4), .second, .val (.long q5), .second, .val (.ref b1), .unset, .unset, .unset, .unset, .unset, .unset, .unset] [(.int (8 : Int32)), (.ref b1)]))
  refine ogo (fun t k => XS.lloadN X4.here hx rfl (hb hby at_17) rfl k) ?_
  show OwnEnds _ _ _ _ _ _ _ (T4.setTop (mkF m 18 #[.val (.long q0), .second, .val (.long q1), .second, .val (.long q2), .second, .val (.long q3), .second, .val (.long q4), .second, .val (.long q5), .second, .val (.ref b1), .unset, .unset, .unset, .unset, .unset, .unset, .unset] [(.long q1), (.int (8 : Int32)), (.ref b1)]))
  obtain ⟨v7, _, ⟨T7, L7, k7, n7⟩, -, X7, ⟨Lc7, hQ7, l7, y7, z7⟩, st7⟩ := Jvm.LawKit.callS X4 hx (y := (⟨"com/example/opaque_token/opaquetoken/token/PinHashOfStoredPinLaw", "put", "([BIJ)V"⟩ : MethodName)) hown (mvT hZ (hw _ (List.mem_of_getElem? (i := 1) rfl))) (mvT hZ (hw _ (List.mem_of_getElem? (i := 2) rfl))) (mvT hZ (hw _ (List.mem_of_getElem? (i := 3) rfl))) (mvT hZ (hw _ (List.mem_of_getElem? (i := 4) rfl))) (by decide) (backOf (W := 0) (rm1 l Z a0 hw [] b1 (8 : Int32) q1 (own_put own_z 0 q0) T4.heap n0 Z6 OLD6 Vp4 q_b1 ((own_put_len _ _ _).trans rfl) (by decide)) hZ (hw _ (List.mem_of_getElem? (i := 4) rfl)) (hw _ (List.mem_of_getElem? (i := 3) rfl)) (by decide) (by decide)) (g := (mkF m 18 #[.val (.long q0), .second, .val (.long q1), .second, .val (.long q2), .second, .val (.long q3), .second, .val (.long q4), .second, .val (.long q5), .second, .val (.ref b1), .unset, .unset, .unset, .unset, .unset, .unset, .unset] [(.long q1), (.int (8 : Int32)), (.ref b1)])) rfl (by rw [hml]; rfl) (argsL := [(.ref b1), (.int (8 : Int32)), (.long q1)]) (rest := []) (lenOf pd___BIJ_V rfl) rfl (by show 2 * 0 + _ ≤ _; exact Nat.le_of_eq rfl) (hb hby at_18) (fun _ _ => ⟨rfl, rfl, (by decide : 1 + 0 ≤ _), (by decide : 48 + 0 ≤ _)⟩)
  dsimp only [Pt.U, Pt.locs, Pt.cells, Pt.slots] at X7 l7 y7 z7 st7 hQ7
  subst l7 y7 z7
  obtain ⟨rfl, N7q, Kq7, Vq7⟩ := hQ7
  have N7 := Fr.app N4 N7q
  have f8 := f5.keep Kq7
  have OLD9 := OLD6.keep Kq7 (allS q_b1 all0)
  have K9 := K6.trans Kq7 (allS (Or.inr sz_b1) all0)
  have Z9 := Nat.le_trans Z6 Kq7.1
  have Vp7 : Av Z T7.heap b1 .byte (48 : Int32) (own_put (own_put own_z 0 q0) 8 q1) (.int (0 : Int32)) := Vq7
  refine ogo (fun t k => st7 t k) ?_
  show OwnEnds _ _ _ _ _ _ _ (T7.setTop (mkF m 21 #[.val (.long q0), .second, .val (.long q1), .second, .val (.long q2), .second, .val (.long q3), .second, .val (.long q4), .second, .val (.long q5), .second, .val (.ref b1), .unset, .unset, .unset, .unset, .unset, .unset, .unset] []))
  refine ogo (fun t k => XS.aload X7.here hx rfl (hb hby at_21) rfl rfl k) ?_
  show OwnEnds _ _ _ _ _ _ _ (T7.setTop (mkF m 23 #[.val (.long q0), .second, .val (.long q1), .second, .val (.long q2), .second, .val (.long q3), .second, .val (.long q4), .second, .val (.long q5), .second, .val (.ref b1), .unset, .unset, .unset, .unset, .unset, .unset, .unset] [(.ref b1)]))
  refine ogo (fun t k => XS.bipush X7.here hx rfl (hb hby at_23) k) ?_
  show OwnEnds _ _ _ _ _ _ _ (T7.setTop (mkF m 25 #[.val (.long q0), .second, .val (.long q1), .second, .val (.long q2), .second, .val (.long q3), .second, .val (.long q4), .second, .val (.long q5), .second, .val (.ref b1), .unset, .unset, .unset, .unset, .unset, .unset, .unset] [(.int (16 : Int32)), (.ref b1)]))
  refine ogo (fun t k => XS.lload X7.here hx rfl (hb hby at_25) rfl k) ?_
  show OwnEnds _ _ _ _ _ _ _ (T7.setTop (mkF m 27 #[.val (.long q0), .second, .val (.long q1), .second, .val (.long q2), .second, .val (.long q3), .second, .val (.long q4), .second, .val (.long q5), .second, .val (.ref b1), .unset, .unset, .unset, .unset, .unset, .unset, .unset] [(.long q2), (.int (16 : Int32)), (.ref b1)]))
  obtain ⟨v10, _, ⟨T10, L10, k10, n10⟩, -, X10, ⟨Lc10, hQ10, l10, y10, z10⟩, st10⟩ := Jvm.LawKit.callS X7 hx (y := (⟨"com/example/opaque_token/opaquetoken/token/PinHashOfStoredPinLaw", "put", "([BIJ)V"⟩ : MethodName)) hown (mvT hZ (hw _ (List.mem_of_getElem? (i := 1) rfl))) (mvT hZ (hw _ (List.mem_of_getElem? (i := 2) rfl))) (mvT hZ (hw _ (List.mem_of_getElem? (i := 3) rfl))) (mvT hZ (hw _ (List.mem_of_getElem? (i := 4) rfl))) (by decide) (backOf (W := 0) (rm1 l Z a0 hw [] b1 (16 : Int32) q2 (own_put (own_put own_z 0 q0) 8 q1) T7.heap n0 Z9 OLD9 Vp7 q_b1 ((own_put_len _ _ _).trans ((own_put_len _ _ _).trans rfl)) (by decide)) hZ (hw _ (List.mem_of_getElem? (i := 4) rfl)) (hw _ (List.mem_of_getElem? (i := 3) rfl)) (by decide) (by decide)) (g := (mkF m 27 #[.val (.long q0), .second, .val (.long q1), .second, .val (.long q2), .second, .val (.long q3), .second, .val (.long q4), .second, .val (.long q5), .second, .val (.ref b1), .unset, .unset, .unset, .unset, .unset, .unset, .unset] [(.long q2), (.int (16 : Int32)), (.ref b1)])) rfl (by rw [hml]; rfl) (argsL := [(.ref b1), (.int (16 : Int32)), (.long q2)]) (rest := []) (lenOf pd___BIJ_V rfl) rfl (by show 2 * 0 + _ ≤ _; exact Nat.le_of_eq rfl) (hb hby at_27) (fun _ _ => ⟨rfl, rfl, (by decide : 1 + 0 ≤ _), (by decide : 48 + 0 ≤ _)⟩)
  dsimp only [Pt.U, Pt.locs, Pt.cells, Pt.slots] at X10 l10 y10 z10 st10 hQ10
  subst l10 y10 z10
  obtain ⟨rfl, N10q, Kq10, Vq10⟩ := hQ10
  have N10 := Fr.app N7 N10q
  have f11 := f8.keep Kq10
  have OLD12 := OLD9.keep Kq10 (allS q_b1 all0)
  have K12 := K9.trans Kq10 (allS (Or.inr sz_b1) all0)
  have Z12 := Nat.le_trans Z9 Kq10.1
  have Vp10 : Av Z T10.heap b1 .byte (48 : Int32) (own_put (own_put (own_put own_z 0 q0) 8 q1) 16 q2) (.int (0 : Int32)) := Vq10
  refine ogo (fun t k => st10 t k) ?_
  show OwnEnds _ _ _ _ _ _ _ (T10.setTop (mkF m 30 #[.val (.long q0), .second, .val (.long q1), .second, .val (.long q2), .second, .val (.long q3), .second, .val (.long q4), .second, .val (.long q5), .second, .val (.ref b1), .unset, .unset, .unset, .unset, .unset, .unset, .unset] []))
  refine ogo (fun t k => XS.aload X10.here hx rfl (hb hby at_30) rfl rfl k) ?_
  show OwnEnds _ _ _ _ _ _ _ (T10.setTop (mkF m 32 #[.val (.long q0), .second, .val (.long q1), .second, .val (.long q2), .second, .val (.long q3), .second, .val (.long q4), .second, .val (.long q5), .second, .val (.ref b1), .unset, .unset, .unset, .unset, .unset, .unset, .unset] [(.ref b1)]))
  refine ogo (fun t k => XS.bipush X10.here hx rfl (hb hby at_32) k) ?_
  show OwnEnds _ _ _ _ _ _ _ (T10.setTop (mkF m 34 #[.val (.long q0), .second, .val (.long q1), .second, .val (.long q2), .second, .val (.long q3), .second, .val (.long q4), .second, .val (.long q5), .second, .val (.ref b1), .unset, .unset, .unset, .unset, .unset, .unset, .unset] [(.int (24 : Int32)), (.ref b1)]))
  refine ogo (fun t k => XS.lload X10.here hx rfl (hb hby at_34) rfl k) ?_
  show OwnEnds _ _ _ _ _ _ _ (T10.setTop (mkF m 36 #[.val (.long q0), .second, .val (.long q1), .second, .val (.long q2), .second, .val (.long q3), .second, .val (.long q4), .second, .val (.long q5), .second, .val (.ref b1), .unset, .unset, .unset, .unset, .unset, .unset, .unset] [(.long q3), (.int (24 : Int32)), (.ref b1)]))
  obtain ⟨v13, _, ⟨T13, L13, k13, n13⟩, -, X13, ⟨Lc13, hQ13, l13, y13, z13⟩, st13⟩ := Jvm.LawKit.callS X10 hx (y := (⟨"com/example/opaque_token/opaquetoken/token/PinHashOfStoredPinLaw", "put", "([BIJ)V"⟩ : MethodName)) hown (mvT hZ (hw _ (List.mem_of_getElem? (i := 1) rfl))) (mvT hZ (hw _ (List.mem_of_getElem? (i := 2) rfl))) (mvT hZ (hw _ (List.mem_of_getElem? (i := 3) rfl))) (mvT hZ (hw _ (List.mem_of_getElem? (i := 4) rfl))) (by decide) (backOf (W := 0) (rm1 l Z a0 hw [] b1 (24 : Int32) q3 (own_put (own_put (own_put own_z 0 q0) 8 q1) 16 q2) T10.heap n0 Z12 OLD12 Vp10 q_b1 ((own_put_len _ _ _).trans ((own_put_len _ _ _).trans ((own_put_len _ _ _).trans rfl))) (by decide)) hZ (hw _ (List.mem_of_getElem? (i := 4) rfl)) (hw _ (List.mem_of_getElem? (i := 3) rfl)) (by decide) (by decide)) (g := (mkF m 36 #[.val (.long q0), .second, .val (.long q1), .second, .val (.long q2), .second, .val (.long q3), .second, .val (.long q4), .second, .val (.long q5), .second, .val (.ref b1), .unset, .unset, .unset, .unset, .unset, .unset, .unset] [(.long q3), (.int (24 : Int32)), (.ref b1)])) rfl (by rw [hml]; rfl) (argsL := [(.ref b1), (.int (24 : Int32)), (.long q3)]) (rest := []) (lenOf pd___BIJ_V rfl) rfl (by show 2 * 0 + _ ≤ _; exact Nat.le_of_eq rfl) (hb hby at_36) (fun _ _ => ⟨rfl, rfl, (by decide : 1 + 0 ≤ _), (by decide : 48 + 0 ≤ _)⟩)
  dsimp only [Pt.U, Pt.locs, Pt.cells, Pt.slots] at X13 l13 y13 z13 st13 hQ13
  subst l13 y13 z13
  obtain ⟨rfl, N13q, Kq13, Vq13⟩ := hQ13
  have N13 := Fr.app N10 N13q
  have f14 := f11.keep Kq13
  have OLD15 := OLD12.keep Kq13 (allS q_b1 all0)
  have K15 := K12.trans Kq13 (allS (Or.inr sz_b1) all0)
  have Z15 := Nat.le_trans Z12 Kq13.1
  have Vp13 : Av Z T13.heap b1 .byte (48 : Int32) (own_put (own_put (own_put (own_put own_z 0 q0) 8 q1) 16 q2) 24 q3) (.int (0 : Int32)) := Vq13
  refine ogo (fun t k => st13 t k) ?_
  show OwnEnds _ _ _ _ _ _ _ (T13.setTop (mkF m 39 #[.val (.long q0), .second, .val (.long q1), .second, .val (.long q2), .second, .val (.long q3), .second, .val (.long q4), .second, .val (.long q5), .second, .val (.ref b1), .unset, .unset, .unset, .unset, .unset, .unset, .unset] []))
  refine ogo (fun t k => XS.aload X13.here hx rfl (hb hby at_39) rfl rfl k) ?_
  show OwnEnds _ _ _ _ _ _ _ (T13.setTop (mkF m 41 #[.val (.long q0), .second, .val (.long q1), .second, .val (.long q2), .second, .val (.long q3), .second, .val (.long q4), .second, .val (.long q5), .second, .val (.ref b1), .unset, .unset, .unset, .unset, .unset, .unset, .unset] [(.ref b1)]))
  refine ogo (fun t k => XS.bipush X13.here hx rfl (hb hby at_41) k) ?_
  show OwnEnds _ _ _ _ _ _ _ (T13.setTop (mkF m 43 #[.val (.long q0), .second, .val (.long q1), .second, .val (.long q2), .second, .val (.long q3), .second, .val (.long q4), .second, .val (.long q5), .second, .val (.ref b1), .unset, .unset, .unset, .unset, .unset, .unset, .unset] [(.int (32 : Int32)), (.ref b1)]))
  refine ogo (fun t k => XS.lload X13.here hx rfl (hb hby at_43) rfl k) ?_
  show OwnEnds _ _ _ _ _ _ _ (T13.setTop (mkF m 45 #[.val (.long q0), .second, .val (.long q1), .second, .val (.long q2), .second, .val (.long q3), .second, .val (.long q4), .second, .val (.long q5), .second, .val (.ref b1), .unset, .unset, .unset, .unset, .unset, .unset, .unset] [(.long q4), (.int (32 : Int32)), (.ref b1)]))
  obtain ⟨v16, _, ⟨T16, L16, k16, n16⟩, -, X16, ⟨Lc16, hQ16, l16, y16, z16⟩, st16⟩ := Jvm.LawKit.callS X13 hx (y := (⟨"com/example/opaque_token/opaquetoken/token/PinHashOfStoredPinLaw", "put", "([BIJ)V"⟩ : MethodName)) hown (mvT hZ (hw _ (List.mem_of_getElem? (i := 1) rfl))) (mvT hZ (hw _ (List.mem_of_getElem? (i := 2) rfl))) (mvT hZ (hw _ (List.mem_of_getElem? (i := 3) rfl))) (mvT hZ (hw _ (List.mem_of_getElem? (i := 4) rfl))) (by decide) (backOf (W := 0) (rm1 l Z a0 hw [] b1 (32 : Int32) q4 (own_put (own_put (own_put (own_put own_z 0 q0) 8 q1) 16 q2) 24 q3) T13.heap n0 Z15 OLD15 Vp13 q_b1 ((own_put_len _ _ _).trans ((own_put_len _ _ _).trans ((own_put_len _ _ _).trans ((own_put_len _ _ _).trans rfl)))) (by decide)) hZ (hw _ (List.mem_of_getElem? (i := 4) rfl)) (hw _ (List.mem_of_getElem? (i := 3) rfl)) (by decide) (by decide)) (g := (mkF m 45 #[.val (.long q0), .second, .val (.long q1), .second, .val (.long q2), .second, .val (.long q3), .second, .val (.long q4), .second, .val (.long q5), .second, .val (.ref b1), .unset, .unset, .unset, .unset, .unset, .unset, .unset] [(.long q4), (.int (32 : Int32)), (.ref b1)])) rfl (by rw [hml]; rfl) (argsL := [(.ref b1), (.int (32 : Int32)), (.long q4)]) (rest := []) (lenOf pd___BIJ_V rfl) rfl (by show 2 * 0 + _ ≤ _; exact Nat.le_of_eq rfl) (hb hby at_45) (fun _ _ => ⟨rfl, rfl, (by decide : 1 + 0 ≤ _), (by decide : 48 + 0 ≤ _)⟩)
  dsimp only [Pt.U, Pt.locs, Pt.cells, Pt.slots] at X16 l16 y16 z16 st16 hQ16
  subst l16 y16 z16
  obtain ⟨rfl, N16q, Kq16, Vq16⟩ := hQ16
  have N16 := Fr.app N13 N16q
  have f17 := f14.keep Kq16
  have OLD18 := OLD15.keep Kq16 (allS q_b1 all0)
  have K18 := K15.trans Kq16 (allS (Or.inr sz_b1) all0)
  have Z18 := Nat.le_trans Z15 Kq16.1
  have Vp16 : Av Z T16.heap b1 .byte (48 : Int32) (own_put (own_put (own_put (own_put (own_put own_z 0 q0) 8 q1) 16 q2) 24 q3) 32 q4) (.int (0 : Int32)) := Vq16
  refine ogo (fun t k => st16 t k) ?_
  show OwnEnds _ _ _ _ _ _ _ (T16.setTop (mkF m 48 #[.val (.long q0), .second, .val (.long q1), .second, .val (.long q2), .second, .val (.long q3), .second, .val (.long q4), .second, .val (.long q5), .second, .val (.ref b1), .unset, .unset, .unset, .unset, .unset, .unset, .unset] []))
  refine ogo (fun t k => XS.aload X16.here hx rfl (hb hby at_48) rfl rfl k) ?_
  show OwnEnds _ _ _ _ _ _ _ (T16.setTop (mkF m 50 #[.val (.long q0), .second, .val (.long q1), .second, .val (.long q2), .second, .val (.long q3), .second, .val (.long q4), .second, .val (.long q5), .second, .val (.ref b1), .unset, .unset, .unset, .unset, .unset, .unset, .unset] [(.ref b1)]))
  refine ogo (fun t k => XS.bipush X16.here hx rfl (hb hby at_50) k) ?_
  show OwnEnds _ _ _ _ _ _ _ (T16.setTop (mkF m 52 #[.val (.long q0), .second, .val (.long q1), .second, .val (.long q2), .second, .val (.long q3), .second, .val (.long q4), .second, .val (.long q5), .second, .val (.ref b1), .unset, .unset, .unset, .unset, .unset, .unset, .unset] [(.int (40 : Int32)), (.ref b1)]))
  refine ogo (fun t k => XS.lload X16.here hx rfl (hb hby at_52) rfl k) ?_
  show OwnEnds _ _ _ _ _ _ _ (T16.setTop (mkF m 54 #[.val (.long q0), .second, .val (.long q1), .second, .val (.long q2), .second, .val (.long q3), .second, .val (.long q4), .second, .val (.long q5), .second, .val (.ref b1), .unset, .unset, .unset, .unset, .unset, .unset, .unset] [(.long q5), (.int (40 : Int32)), (.ref b1)]))
  obtain ⟨v19, _, ⟨T19, L19, k19, n19⟩, -, X19, ⟨Lc19, hQ19, l19, y19, z19⟩, st19⟩ := Jvm.LawKit.callS X16 hx (y := (⟨"com/example/opaque_token/opaquetoken/token/PinHashOfStoredPinLaw", "put", "([BIJ)V"⟩ : MethodName)) hown (mvT hZ (hw _ (List.mem_of_getElem? (i := 1) rfl))) (mvT hZ (hw _ (List.mem_of_getElem? (i := 2) rfl))) (mvT hZ (hw _ (List.mem_of_getElem? (i := 3) rfl))) (mvT hZ (hw _ (List.mem_of_getElem? (i := 4) rfl))) (by decide) (backOf (W := 0) (rm1 l Z a0 hw [] b1 (40 : Int32) q5 (own_put (own_put (own_put (own_put (own_put own_z 0 q0) 8 q1) 16 q2) 24 q3) 32 q4) T16.heap n0 Z18 OLD18 Vp16 q_b1 ((own_put_len _ _ _).trans ((own_put_len _ _ _).trans ((own_put_len _ _ _).trans ((own_put_len _ _ _).trans ((own_put_len _ _ _).trans rfl))))) (by decide)) hZ (hw _ (List.mem_of_getElem? (i := 4) rfl)) (hw _ (List.mem_of_getElem? (i := 3) rfl)) (by decide) (by decide)) (g := (mkF m 54 #[.val (.long q0), .second, .val (.long q1), .second, .val (.long q2), .second, .val (.long q3), .second, .val (.long q4), .second, .val (.long q5), .second, .val (.ref b1), .unset, .unset, .unset, .unset, .unset, .unset, .unset] [(.long q5), (.int (40 : Int32)), (.ref b1)])) rfl (by rw [hml]; rfl) (argsL := [(.ref b1), (.int (40 : Int32)), (.long q5)]) (rest := []) (lenOf pd___BIJ_V rfl) rfl (by show 2 * 0 + _ ≤ _; exact Nat.le_of_eq rfl) (hb hby at_54) (fun _ _ => ⟨rfl, rfl, (by decide : 1 + 0 ≤ _), (by decide : 48 + 0 ≤ _)⟩)
  dsimp only [Pt.U, Pt.locs, Pt.cells, Pt.slots] at X19 l19 y19 z19 st19 hQ19
  subst l19 y19 z19
  obtain ⟨rfl, N19q, Kq19, Vq19⟩ := hQ19
  have N19 := Fr.app N16 N19q
  have f20 := f17.keep Kq19
  have OLD21 := OLD18.keep Kq19 (allS q_b1 all0)
  have K21 := K18.trans Kq19 (allS (Or.inr sz_b1) all0)
  have Z21 := Nat.le_trans Z18 Kq19.1
  have Vp19 : Av Z T19.heap b1 .byte (48 : Int32) (own_all q0 q1 q2 q3 q4 q5) (.int (0 : Int32)) := Vq19
  refine ogo (fun t k => st19 t k) ?_
  show OwnEnds _ _ _ _ _ _ _ (T19.setTop (mkF m 57 #[.val (.long q0), .second, .val (.long q1), .second, .val (.long q2), .second, .val (.long q3), .second, .val (.long q4), .second, .val (.long q5), .second, .val (.ref b1), .unset, .unset, .unset, .unset, .unset, .unset, .unset] []))
  refine ogo (fun t k => XS.iconst X19.here hx rfl (hb hby at_57) k) ?_
  show OwnEnds _ _ _ _ _ _ _ (T19.setTop (mkF m 58 #[.val (.long q0), .second, .val (.long q1), .second, .val (.long q2), .second, .val (.long q3), .second, .val (.long q4), .second, .val (.long q5), .second, .val (.ref b1), .unset, .unset, .unset, .unset, .unset, .unset, .unset] [(.int (0 : Int32))]))
  obtain ⟨T22, h22, k22, X22, e22, E22, A22, B22, st22⟩ := newPE X19 hx hZ (hw _ (List.mem_of_getElem? (i := 0) rfl)) rfl (g := (mkF m 58 #[.val (.long q0), .second, .val (.long q1), .second, .val (.long q2), .second, .val (.long q3), .second, .val (.long q4), .second, .val (.long q5), .second, .val (.ref b1), .unset, .unset, .unset, .unset, .unset, .unset, .unset] [(.int (0 : Int32))])) rfl (hb hby at_58) rfl (by decide) (cap := 0) (by decide) (by decide) (by decide) (by decide) (ad := "[B") (by decide)
  obtain ⟨b22, g22⟩ : ∃ z, z = T19.heap.size := ⟨_, rfl⟩
  rw [← g22] at A22 B22 st22
  have ne_b1_b22 : b1 ≠ b22 := Nat.ne_of_lt (Nat.lt_of_lt_of_le (f20).lt (Nat.le_of_eq g22.symm))
  have q_b22 : n0 ≤ b22 := Nat.le_trans Z21 (Nat.le_of_eq g22.symm)
  have sz_b22 : h0.size ≤ b22 := Nat.le_trans K21.1 (Nat.le_of_eq g22.symm)
  have f23 := f20.ext E22
  have f24 := Vp19.ext E22
  have OLD25 := OLD21.ext E22
  have K25 := K21.ext E22
  have Z25 := Nat.le_trans Z21 E22.1
  have V22 : Arv Z h22 b22 k22 .byte (0 : Int32) [] (.int (0 : Int32)) := (Arv.new A22 (by decide)).pad (pad_rep [] (.int (0 : Int32)) 0)
  refine ogo st22 ?_
  show OwnEnds _ _ _ _ _ _ _ (T22.setTop (mkF m 60 #[.val (.long q0), .second, .val (.long q1), .second, .val (.long q2), .second, .val (.long q3), .second, .val (.long q4), .second, .val (.long q5), .second, .val (.ref b1), .unset, .unset, .unset, .unset, .unset, .unset, .unset] [(.ref b22)]))
  refine ogo (fun t k => XS.astore X22.here hx rfl (hb hby at_60) rfl rfl (l' := #[.val (.long q0), .second, .val (.long q1), .second, .val (.long q2), .second, .val (.long q3), .second, .val (.long q4), .second, .val (.long q5), .second, .val (.ref b1), .val (.ref b22), .unset, .unset, .unset, .unset, .unset, .unset]) rfl k) ?_
  show OwnEnds _ _ _ _ _ _ _ (T22.setTop (mkF m 62 #[.val (.long q0), .second, .val (.long q1), .second, .val (.long q2), .second, .val (.long q3), .second, .val (.long q4), .second, .val (.long q5), .second, .val (.ref b1), .val (.ref b22), .unset, .unset, .unset, .unset, .unset, .unset] []))
  refine ogo (fun t k => XS.lloadN X22.here hx rfl (hb hby at_62) rfl k) ?_
  show OwnEnds _ _ _ _ _ _ _ (T22.setTop (mkF m 63 #[.val (.long q0), .second, .val (.long q1), .second, .val (.long q2), .second, .val (.long q3), .second, .val (.long q4), .second, .val (.long q5), .second, .val (.ref b1), .val (.ref b22), .unset, .unset, .unset, .unset, .unset, .unset] [(.long q0)]))
  refine ogo (fun t k => XS.lload X22.here hx rfl (hb hby at_63) rfl k) ?_
  show OwnEnds _ _ _ _ _ _ _ (T22.setTop (mkF m 65 #[.val (.long q0), .second, .val (.long q1), .second, .val (.long q2), .second, .val (.long q3), .second, .val (.long q4), .second, .val (.long q5), .second, .val (.ref b1), .val (.ref b22), .unset, .unset, .unset, .unset, .unset, .unset] [(.long q5), (.long q0)]))
  refine ogo (fun t k => XS.lxor X22.here hx rfl (hb hby at_65) rfl k) ?_
  show OwnEnds _ _ _ _ _ _ _ (T22.setTop (mkF m 66 #[.val (.long q0), .second, .val (.long q1), .second, .val (.long q2), .second, .val (.long q3), .second, .val (.long q4), .second, .val (.long q5), .second, .val (.ref b1), .val (.ref b22), .unset, .unset, .unset, .unset, .unset, .unset] [(.long (q0 ^^^ q5))]))
  refine ogo (fun t k => X22.ldc2Long hx hown (mvT hZ (hw _ (List.mem_of_getElem? (i := 5) rfl))) (g := (mkF m 66 #[.val (.long q0), .second, .val (.long q1), .second, .val (.long q2), .second, .val (.long q3), .second, .val (.long q4), .second, .val (.long q5), .second, .val (.ref b1), .val (.ref b22), .unset, .unset, .unset, .unset, .unset, .unset] [(.long (q0 ^^^ q5))])) rfl (hb hby at_66) t k) ?_
  show OwnEnds _ _ _ _ _ _ _ (T22.setTop (mkF m 69 #[.val (.long q0), .second, .val (.long q1), .second, .val (.long q2), .second, .val (.long q3), .second, .val (.long q4), .second, .val (.long q5), .second, .val (.ref b1), .val (.ref b22), .unset, .unset, .unset, .unset, .unset, .unset] [(.long (2147483647 : Int64)), (.long (q0 ^^^ q5))]))
  refine ogo (fun t k => XS.land X22.here hx rfl (hb hby at_69) rfl k) ?_
  show OwnEnds _ _ _ _ _ _ _ (T22.setTop (mkF m 70 #[.val (.long q0), .second, .val (.long q1), .second, .val (.long q2), .second, .val (.long q3), .second, .val (.long q4), .second, .val (.long q5), .second, .val (.ref b1), .val (.ref b22), .unset, .unset, .unset, .unset, .unset, .unset] [(.long ((q0 ^^^ q5) &&& (2147483647 : Int64)))]))
  refine ogo (fun t k => XS.l2i X22.here hx rfl (hb hby at_70) rfl k) ?_
  show OwnEnds _ _ _ _ _ _ _ (T22.setTop (mkF m 71 #[.val (.long q0), .second, .val (.long q1), .second, .val (.long q2), .second, .val (.long q3), .second, .val (.long q4), .second, .val (.long q5), .second, .val (.ref b1), .val (.ref b22), .unset, .unset, .unset, .unset, .unset, .unset] [(.int (((q0 ^^^ q5) &&& (2147483647 : Int64)).toInt32))]))
  refine ogo (fun t k => XS.bipush X22.here hx rfl (hb hby at_71) k) ?_
  show OwnEnds _ _ _ _ _ _ _ (T22.setTop (mkF m 73 #[.val (.long q0), .second, .val (.long q1), .second, .val (.long q2), .second, .val (.long q3), .second, .val (.long q4), .second, .val (.long q5), .second, .val (.ref b1), .val (.ref b22), .unset, .unset, .unset, .unset, .unset, .unset] [(.int (48 : Int32)), (.int (((q0 ^^^ q5) &&& (2147483647 : Int64)).toInt32))]))
  refine ogo (fun t k => iremM (g := (mkF m 73 #[.val (.long q0), .second, .val (.long q1), .second, .val (.long q2), .second, .val (.long q3), .second, .val (.long q4), .second, .val (.long q5), .second, .val (.ref b1), .val (.ref b22), .unset, .unset, .unset, .unset, .unset, .unset] [(.int (48 : Int32)), (.int (((q0 ^^^ q5) &&& (2147483647 : Int64)).toInt32))])) X22 hx rfl (hb hby at_73) rfl (by decide) k) ?_
  show OwnEnds _ _ _ _ _ _ _ (T22.setTop (mkF m 74 #[.val (.long q0), .second, .val (.long q1), .second, .val (.long q2), .second, .val (.long q3), .second, .val (.long q4), .second, .val (.long q5), .second, .val (.ref b1), .val (.ref b22), .unset, .unset, .unset, .unset, .unset, .unset] [(.int ((((q0 ^^^ q5) &&& (2147483647 : Int64)).toInt32) % (48 : Int32)))]))
  refine ogo (fun t k => XS.istore X22.here hx rfl (hb hby at_74) rfl (l' := #[.val (.long q0), .second, .val (.long q1), .second, .val (.long q2), .second, .val (.long q3), .second, .val (.long q4), .second, .val (.long q5), .second, .val (.ref b1), .val (.ref b22), .val (.int ((((q0 ^^^ q5) &&& (2147483647 : Int64)).toInt32) % (48 : Int32))), .unset, .unset, .unset, .unset, .unset]) rfl k) ?_
  show OwnEnds _ _ _ _ _ _ _ (T22.setTop (mkF m 76 #[.val (.long q0), .second, .val (.long q1), .second, .val (.long q2), .second, .val (.long q3), .second, .val (.long q4), .second, .val (.long q5), .second, .val (.ref b1), .val (.ref b22), .val (.int ((((q0 ^^^ q5) &&& (2147483647 : Int64)).toInt32) % (48 : Int32))), .unset, .unset, .unset, .unset, .unset] []))
  refine ogo (fun t k => XS.aload X22.here hx rfl (hb hby at_76) rfl rfl k) ?_
  show OwnEnds _ _ _ _ _ _ _ (T22.setTop (mkF m 78 #[.val (.long q0), .second, .val (.long q1), .second, .val (.long q2), .second, .val (.long q3), .second, .val (.long q4), .second, .val (.long q5), .second, .val (.ref b1), .val (.ref b22), .val (.int ((((q0 ^^^ q5) &&& (2147483647 : Int64)).toInt32) % (48 : Int32))), .unset, .unset, .unset, .unset, .unset] [(.ref b1)]))
  obtain ⟨v26, _, ⟨T26, L26, k26, n26⟩, -, X26, ⟨Lc26, hQ26, l26, y26, z26⟩, st26⟩ := Jvm.LawKit.callS X22 hx (y := (⟨"com/example/opaque_token/opaquetoken/token/PinHash", "ofStored", "([B)Lcom/example/opaque_token/opaquetoken/token/PinHash;"⟩ : MethodName)) hown (mvT hZ (hw _ (List.mem_of_getElem? (i := 6) rfl))) (mvT hZ (hw _ (List.mem_of_getElem? (i := 7) rfl))) (mvT hZ (hw _ (List.mem_of_getElem? (i := 8) rfl))) (mvT hZ (hw _ (List.mem_of_getElem? (i := 9) rfl))) (by decide) (backOf (W := 0) (rm5 l Z a0 hw [] b1 (own_all q0 q1 q2 q3 q4 q5) h22 n0 Z25 OLD25 f24 f23) hZ (hw _ (List.mem_of_getElem? (i := 9) rfl)) (hw _ (List.mem_of_getElem? (i := 8) rfl)) (by decide) (by decide)) (g := (mkF m 78 #[.val (.long q0), .second, .val (.long q1), .second, .val (.long q2), .second, .val (.long q3), .second, .val (.long q4), .second, .val (.long q5), .second, .val (.ref b1), .val (.ref b22), .val (.int ((((q0 ^^^ q5) &&& (2147483647 : Int64)).toInt32) % (48 : Int32))), .unset, .unset, .unset, .unset, .unset] [(.ref b1)])) rfl (by rw [hml]; rfl) (argsL := [(.ref b1)]) (rest := []) (lenOf pd___B_Lcom_example_opaque_token_opaquetoken_token_PinHash_ rfl) rfl (by show 2 * 0 + _ ≤ _; exact Nat.le_of_eq rfl) (hb hby at_78) (fun _ _ => ⟨rfl, e22, (by decide : 2 + 2 ≤ _), (by decide : 48 + 49 ≤ _)⟩)
  dsimp only [Pt.U, Pt.locs, Pt.cells, Pt.slots] at X26 l26 y26 z26 st26 hQ26
  subst l26 y26 z26
  obtain ⟨r26, x26, rfl, Sq26, Sp26, N26q, Kq26, Eq26, Fq26, Vq26, Ec26⟩ := hQ26
  have N26 := Fr.app N19 N26q
  have ne_b1_r26 : b1 ≠ r26 := Nat.ne_of_lt (Nat.lt_of_lt_of_le (f23).lt Sq26)
  have ne_b22_r26 : b22 ≠ r26 := Nat.ne_of_lt (Nat.lt_of_lt_of_le (V22).lt Sq26)
  have q_r26 : n0 ≤ r26 := Nat.le_trans Z25 Sq26
  have sz_r26 : h0.size ≤ r26 := Nat.le_trans K25.1 Sq26
  have ne_b1_x26 : b1 ≠ x26 := Nat.ne_of_lt (Nat.lt_of_lt_of_le (f23).lt Sp26)
  have ne_b22_x26 : b22 ≠ x26 := Nat.ne_of_lt (Nat.lt_of_lt_of_le (V22).lt Sp26)
  have q_x26 : n0 ≤ x26 := Nat.le_trans Z25 Sp26
  have sz_x26 : h0.size ≤ x26 := Nat.le_trans K25.1 Sp26
  have f27 := f23.keep Kq26
  have f28 := f24.keep Kq26 nin0
  have f29 := V22.keep Kq26 nin0
  have f30 := B22.keep Kq26
  have OLD31 := OLD25.keep Kq26 all0
  have K31 := K25.trans Kq26 all0
  have Z31 := Nat.le_trans Z25 Kq26.1
  refine ogo (fun t k => st26 t k) ?_
  show OwnEnds _ _ _ _ _ _ _ (T26.setTop (mkF m 81 #[.val (.long q0), .second, .val (.long q1), .second, .val (.long q2), .second, .val (.long q3), .second, .val (.long q4), .second, .val (.long q5), .second, .val (.ref b1), .val (.ref b22), .val (.int ((((q0 ^^^ q5) &&& (2147483647 : Int64)).toInt32) % (48 : Int32))), .unset, .unset, .unset, .unset, .unset] [(.ref r26)]))
  refine ogo (fun t k => XS.astore X26.here hx rfl (hb hby at_81) rfl rfl (l' := #[.val (.long q0), .second, .val (.long q1), .second, .val (.long q2), .second, .val (.long q3), .second, .val (.long q4), .second, .val (.long q5), .second, .val (.ref b1), .val (.ref b22), .val (.int ((((q0 ^^^ q5) &&& (2147483647 : Int64)).toInt32) % (48 : Int32))), .val (.ref r26), .unset, .unset, .unset, .unset]) rfl k) ?_
  show OwnEnds _ _ _ _ _ _ _ (T26.setTop (mkF m 83 #[.val (.long q0), .second, .val (.long q1), .second, .val (.long q2), .second, .val (.long q3), .second, .val (.long q4), .second, .val (.long q5), .second, .val (.ref b1), .val (.ref b22), .val (.int ((((q0 ^^^ q5) &&& (2147483647 : Int64)).toInt32) % (48 : Int32))), .val (.ref r26), .unset, .unset, .unset, .unset] []))
  refine ogo (fun t k => XS.aload X26.here hx rfl (hb hby at_83) rfl rfl k) ?_
  show OwnEnds _ _ _ _ _ _ _ (T26.setTop (mkF m 85 #[.val (.long q0), .second, .val (.long q1), .second, .val (.long q2), .second, .val (.long q3), .second, .val (.long q4), .second, .val (.long q5), .second, .val (.ref b1), .val (.ref b22), .val (.int ((((q0 ^^^ q5) &&& (2147483647 : Int64)).toInt32) % (48 : Int32))), .val (.ref r26), .unset, .unset, .unset, .unset] [(.ref b1)]))
  refine ogo (fun t k => XS.iload X26.here hx rfl (hb hby at_85) rfl k) ?_
  show OwnEnds _ _ _ _ _ _ _ (T26.setTop (mkF m 87 #[.val (.long q0), .second, .val (.long q1), .second, .val (.long q2), .second, .val (.long q3), .second, .val (.long q4), .second, .val (.long q5), .second, .val (.ref b1), .val (.ref b22), .val (.int ((((q0 ^^^ q5) &&& (2147483647 : Int64)).toInt32) % (48 : Int32))), .val (.ref r26), .unset, .unset, .unset, .unset] [(.int ((((q0 ^^^ q5) &&& (2147483647 : Int64)).toInt32) % (48 : Int32))), (.ref b1)]))
  refine ogo (fun t k => XS.aload X26.here hx rfl (hb hby at_87) rfl rfl k) ?_
  show OwnEnds _ _ _ _ _ _ _ (T26.setTop (mkF m 89 #[.val (.long q0), .second, .val (.long q1), .second, .val (.long q2), .second, .val (.long q3), .second, .val (.long q4), .second, .val (.long q5), .second, .val (.ref b1), .val (.ref b22), .val (.int ((((q0 ^^^ q5) &&& (2147483647 : Int64)).toInt32) % (48 : Int32))), .val (.ref r26), .unset, .unset, .unset, .unset] [(.ref b1), (.int ((((q0 ^^^ q5) &&& (2147483647 : Int64)).toInt32) % (48 : Int32))), (.ref b1)]))
  refine ogo (fun t k => XS.iload X26.here hx rfl (hb hby at_89) rfl k) ?_
  show OwnEnds _ _ _ _ _ _ _ (T26.setTop (mkF m 91 #[.val (.long q0), .second, .val (.long q1), .second, .val (.long q2), .second, .val (.long q3), .second, .val (.long q4), .second, .val (.long q5), .second, .val (.ref b1), .val (.ref b22), .val (.int ((((q0 ^^^ q5) &&& (2147483647 : Int64)).toInt32) % (48 : Int32))), .val (.ref r26), .unset, .unset, .unset, .unset] [(.int ((((q0 ^^^ q5) &&& (2147483647 : Int64)).toInt32) % (48 : Int32))), (.ref b1), (.int ((((q0 ^^^ q5) &&& (2147483647 : Int64)).toInt32) % (48 : Int32))), (.ref b1)]))
  obtain ⟨ak32, cl32, Ar32, Aq32, As32, An32, Ah32, Ag32⟩ := id f28
  refine ogo (fun t k => X26.baloadBytes hx (j := ((((q0 ^^^ q5) &&& (2147483647 : Int64)).toInt32) % (48 : Int32))) (v := (.int (own_at (own_all q0 q1 q2 q3 q4 q5) (((((q0 ^^^ q5) &&& (2147483647 : Int64)).toInt32) % (48 : Int32))).toNatClampNeg))) Ar32.1 (State.isArrayOf_alike hZ.alike Ar32.2.1) Ar32.2.2 (inb_of As32 (own_kb _)) (Ah32.at (inb_of As32 (own_kb _)) (own_at_eq (own_all_int q0 q1 q2 q3 q4 q5) _)) (g := (mkF m 91 #[.val (.long q0), .second, .val (.long q1), .second, .val (.long q2), .second, .val (.long q3), .second, .val (.long q4), .second, .val (.long q5), .second, .val (.ref b1), .val (.ref b22), .val (.int ((((q0 ^^^ q5) &&& (2147483647 : Int64)).toInt32) % (48 : Int32))), .val (.ref r26), .unset, .unset, .unset, .unset] [(.int ((((q0 ^^^ q5) &&& (2147483647 : Int64)).toInt32) % (48 : Int32))), (.ref b1), (.int ((((q0 ^^^ q5) &&& (2147483647 : Int64)).toInt32) % (48 : Int32))), (.ref b1)])) rfl rfl (hb hby at_91) t k) ?_
  show OwnEnds _ _ _ _ _ _ _ (T26.setTop (mkF m 92 #[.val (.long q0), .second, .val (.long q1), .second, .val (.long q2), .second, .val (.long q3), .second, .val (.long q4), .second, .val (.long q5), .second, .val (.ref b1), .val (.ref b22), .val (.int ((((q0 ^^^ q5) &&& (2147483647 : Int64)).toInt32) % (48 : Int32))), .val (.ref r26), .unset, .unset, .unset, .unset] [(.int (own_at (own_all q0 q1 q2 q3 q4 q5) (((((q0 ^^^ q5) &&& (2147483647 : Int64)).toInt32) % (48 : Int32))).toNatClampNeg)), (.int ((((q0 ^^^ q5) &&& (2147483647 : Int64)).toInt32) % (48 : Int32))), (.ref b1)]))
  refine ogo (fun t k => XS.iconst X26.here hx rfl (hb hby at_92) k) ?_
  show OwnEnds _ _ _ _ _ _ _ (T26.setTop (mkF m 93 #[.val (.long q0), .second, .val (.long q1), .second, .val (.long q2), .second, .val (.long q3), .second, .val (.long q4), .second, .val (.long q5), .second, .val (.ref b1), .val (.ref b22), .val (.int ((((q0 ^^^ q5) &&& (2147483647 : Int64)).toInt32) % (48 : Int32))), .val (.ref r26), .unset, .unset, .unset, .unset] [(.int (1 : Int32)), (.int (own_at (own_all q0 q1 q2 q3 q4 q5) (((((q0 ^^^ q5) &&& (2147483647 : Int64)).toInt32) % (48 : Int32))).toNatClampNeg)), (.int ((((q0 ^^^ q5) &&& (2147483647 : Int64)).toInt32) % (48 : Int32))), (.ref b1)]))
  refine ogo (fun t k => XS.ixor X26.here hx rfl (hb hby at_93) rfl k) ?_
  show OwnEnds _ _ _ _ _ _ _ (T26.setTop (mkF m 94 #[.val (.long q0), .second, .val (.long q1), .second, .val (.long q2), .second, .val (.long q3), .second, .val (.long q4), .second, .val (.long q5), .second, .val (.ref b1), .val (.ref b22), .val (.int ((((q0 ^^^ q5) &&& (2147483647 : Int64)).toInt32) % (48 : Int32))), .val (.ref r26), .unset, .unset, .unset, .unset] [(.int ((own_at (own_all q0 q1 q2 q3 q4 q5) (((((q0 ^^^ q5) &&& (2147483647 : Int64)).toInt32) % (48 : Int32))).toNatClampNeg) ^^^ (1 : Int32))), (.int ((((q0 ^^^ q5) &&& (2147483647 : Int64)).toInt32) % (48 : Int32))), (.ref b1)]))
  refine ogo (fun t k => XS.i2b X26.here hx rfl (hb hby at_94) rfl k) ?_
  show OwnEnds _ _ _ _ _ _ _ (T26.setTop (mkF m 95 #[.val (.long q0), .second, .val (.long q1), .second, .val (.long q2), .second, .val (.long q3), .second, .val (.long q4), .second, .val (.long q5), .second, .val (.ref b1), .val (.ref b22), .val (.int ((((q0 ^^^ q5) &&& (2147483647 : Int64)).toInt32) % (48 : Int32))), .val (.ref r26), .unset, .unset, .unset, .unset] [(.int (((own_at (own_all q0 q1 q2 q3 q4 q5) (((((q0 ^^^ q5) &&& (2147483647 : Int64)).toInt32) % (48 : Int32))).toNatClampNeg) ^^^ (1 : Int32)).toInt8.toInt32)), (.int ((((q0 ^^^ q5) &&& (2147483647 : Int64)).toInt32) % (48 : Int32))), (.ref b1)]))
  obtain ⟨ak33, cl33, Ar33, Aq33, As33, An33, Ah33, Ag33⟩ := id f28
  obtain ⟨T33, h33, X33, e33, W33, st33⟩ := stB X26 hx hZ rfl Ar33 (j := ((((q0 ^^^ q5) &&& (2147483647 : Int64)).toInt32) % (48 : Int32))) (inb_of As33 (own_kb _)) (g := (mkF m 95 #[.val (.long q0), .second, .val (.long q1), .second, .val (.long q2), .second, .val (.long q3), .second, .val (.long q4), .second, .val (.long q5), .second, .val (.ref b1), .val (.ref b22), .val (.int ((((q0 ^^^ q5) &&& (2147483647 : Int64)).toInt32) % (48 : Int32))), .val (.ref r26), .unset, .unset, .unset, .unset] [(.int (((own_at (own_all q0 q1 q2 q3 q4 q5) (((((q0 ^^^ q5) &&& (2147483647 : Int64)).toInt32) % (48 : Int32))).toNatClampNeg) ^^^ (1 : Int32)).toInt8.toInt32)), (.int ((((q0 ^^^ q5) &&& (2147483647 : Int64)).toInt32) % (48 : Int32))), (.ref b1)])) rfl rfl (hb hby at_95)
  have f34 := f27.wr W33
  have f35 := f29.other W33 (Ne.symm ne_b1_b22)
  have f36 := f30.wr W33
  have f37 := Eq26.wr W33
  have f38 := Fq26.other W33 (Or.inl (Ne.symm ne_b1_r26))
  have f39 := Vq26.other W33 (Ne.symm ne_b1_x26)
  have f40 := Ec26.wr W33
  have N41 := Fr.snoc X33 N26 q_b1
  have OLD41 := OLD31.wr W33 q_b1
  have K41 := K31.wr W33 (Or.inr sz_b1)
  have Z41 := Nat.le_trans Z31 (Nat.le_of_eq W33.size.symm)
  refine ogo st33 ?_
  show OwnEnds _ _ _ _ _ _ _ (T33.setTop (mkF m 96 #[.val (.long q0), .second, .val (.long q1), .second, .val (.long q2), .second, .val (.long q3), .second, .val (.long q4), .second, .val (.long q5), .second, .val (.ref b1), .val (.ref b22), .val (.int ((((q0 ^^^ q5) &&& (2147483647 : Int64)).toInt32) % (48 : Int32))), .val (.ref r26), .unset, .unset, .unset, .unset] []))
  refine ogo (fun t k => XS.aload X33.here hx rfl (hb hby at_96) rfl rfl k) ?_
  show OwnEnds _ _ _ _ _ _ _ (T33.setTop (mkF m 98 #[.val (.long q0), .second, .val (.long q1), .second, .val (.long q2), .second, .val (.long q3), .second, .val (.long q4), .second, .val (.long q5), .second, .val (.ref b1), .val (.ref b22), .val (.int ((((q0 ^^^ q5) &&& (2147483647 : Int64)).toInt32) % (48 : Int32))), .val (.ref r26), .unset, .unset, .unset, .unset] [(.ref r26)]))
  obtain ⟨cq42, kq42, q42a, q42b, q42c⟩ := isOf hZ e33 f37
  obtain ⟨v42, _, ⟨T42, L42, k42, n42⟩, -, X42, ⟨Lc42, hQ42, l42, y42, z42⟩, st42⟩ := X33.virtualBack hx (y := (⟨"com/example/opaque_token/opaquetoken/token/PinHash", "stored", "()[B"⟩ : MethodName)) (z := (⟨"com/example/opaque_token/opaquetoken/token/PinHash", "stored", "()[B"⟩ : MethodName)) hown (mvT hZ (hw _ (List.mem_of_getElem? (i := 29) rfl))) (mvT hZ (hw _ (List.mem_of_getElem? (i := 30) rfl))) (notFace_of_selects (args := #[]) (mvT hZ (hw _ (List.mem_of_getElem? (i := 32) rfl)))) (mvT hZ (hw _ (List.mem_of_getElem? (i := 32) rfl))) (mvT hZ (hw _ (List.mem_of_getElem? (i := 31) rfl))) (by decide) (backOf (W := 0) (rm7 l Z a0 hw [] r26 x26 (own_all q0 q1 q2 q3 q4 q5) h33 n0 Z41 OLD41 f38 f39 f40) hZ (hw _ (List.mem_of_getElem? (i := 33) rfl)) (hw _ (List.mem_of_getElem? (i := 8) rfl)) (by decide) (by decide)) q42a q42c (g := (mkF m 98 #[.val (.long q0), .second, .val (.long q1), .second, .val (.long q2), .second, .val (.long q3), .second, .val (.long q4), .second, .val (.long q5), .second, .val (.ref b1), .val (.ref b22), .val (.int ((((q0 ^^^ q5) &&& (2147483647 : Int64)).toInt32) % (48 : Int32))), .val (.ref r26), .unset, .unset, .unset, .unset] [(.ref r26)])) rfl (by rw [hml]; rfl) (Steps.refl _) (argsL := []) (rest := []) (lenOf pd____B rfl) rfl (by show 2 * 0 + _ ≤ _; exact Nat.le_of_eq rfl) (hb hby at_98) (fun _ _ => ⟨rfl, e33, (by decide : 4 + 1 ≤ _), (by decide : 97 + 48 ≤ _)⟩)
  dsimp only [Pt.U, Pt.locs, Pt.cells, Pt.slots] at X42 l42 y42 z42 st42 hQ42
  subst l42 y42 z42
  obtain ⟨r42, rfl, Sq42, N42q, Kq42, Vq42, Eq42⟩ := hQ42
  have N42 := Fr.app N41 N42q
  have ne_b1_r42 : b1 ≠ r42 := Nat.ne_of_lt (Nat.lt_of_lt_of_le (f34).lt Sq42)
  have ne_b22_r42 : b22 ≠ r42 := Nat.ne_of_lt (Nat.lt_of_lt_of_le (f35).lt Sq42)
  have ne_r26_r42 : r26 ≠ r42 := Nat.ne_of_lt (Nat.lt_of_lt_of_le (f37).lt Sq42)
  have ne_x26_r42 : x26 ≠ r42 := Nat.ne_of_lt (Nat.lt_of_lt_of_le (f39).lt Sq42)
  have q_r42 : n0 ≤ r42 := Nat.le_trans Z41 Sq42
  have sz_r42 : h0.size ≤ r42 := Nat.le_trans K41.1 Sq42
  have f43 := f34.keep Kq42
  have f44 := f35.keep Kq42 nin0
  have f45 := f36.keep Kq42
  have f46 := f37.keep Kq42
  have f47 := f38.keep Kq42 nin0
  have f48 := f39.keep Kq42 nin0
  have f49 := f40.keep Kq42
  have OLD50 := OLD41.keep Kq42 all0
  have K50 := K41.trans Kq42 all0
  have Z50 := Nat.le_trans Z41 Kq42.1
  refine ogo (fun t k => st42.trans k) ?_
  show OwnEnds _ _ _ _ _ _ _ (T42.setTop (mkF m 101 #[.val (.long q0), .second, .val (.long q1), .second, .val (.long q2), .second, .val (.long q3), .second, .val (.long q4), .second, .val (.long q5), .second, .val (.ref b1), .val (.ref b22), .val (.int ((((q0 ^^^ q5) &&& (2147483647 : Int64)).toInt32) % (48 : Int32))), .val (.ref r26), .unset, .unset, .unset, .unset] [(.ref r42)]))
  refine ogo (fun t k => XS.astore X42.here hx rfl (hb hby at_101) rfl rfl (l' := #[.val (.long q0), .second, .val (.long q1), .second, .val (.long q2), .second, .val (.long q3), .second, .val (.long q4), .second, .val (.long q5), .second, .val (.ref b1), .val (.ref b22), .val (.int ((((q0 ^^^ q5) &&& (2147483647 : Int64)).toInt32) % (48 : Int32))), .val (.ref r26), .val (.ref r42), .unset, .unset, .unset]) rfl k) ?_
  show OwnEnds _ _ _ _ _ _ _ (T42.setTop (mkF m 103 #[.val (.long q0), .second, .val (.long q1), .second, .val (.long q2), .second, .val (.long q3), .second, .val (.long q4), .second, .val (.long q5), .second, .val (.ref b1), .val (.ref b22), .val (.int ((((q0 ^^^ q5) &&& (2147483647 : Int64)).toInt32) % (48 : Int32))), .val (.ref r26), .val (.ref r42), .unset, .unset, .unset] []))
  refine ogo (fun t k => XS.aload X42.here hx rfl (hb hby at_103) rfl rfl k) ?_
  show OwnEnds _ _ _ _ _ _ _ (T42.setTop (mkF m 105 #[.val (.long q0), .second, .val (.long q1), .second, .val (.long q2), .second, .val (.long q3), .second, .val (.long q4), .second, .val (.long q5), .second, .val (.ref b1), .val (.ref b22), .val (.int ((((q0 ^^^ q5) &&& (2147483647 : Int64)).toInt32) % (48 : Int32))), .val (.ref r26), .val (.ref r42), .unset, .unset, .unset] [(.ref r42)]))
  refine ogo (fun t k => XS.lloadN X42.here hx rfl (hb hby at_105) rfl k) ?_
  show OwnEnds _ _ _ _ _ _ _ (T42.setTop (mkF m 106 #[.val (.long q0), .second, .val (.long q1), .second, .val (.long q2), .second, .val (.long q3), .second, .val (.long q4), .second, .val (.long q5), .second, .val (.ref b1), .val (.ref b22), .val (.int ((((q0 ^^^ q5) &&& (2147483647 : Int64)).toInt32) % (48 : Int32))), .val (.ref r26), .val (.ref r42), .unset, .unset, .unset] [(.long q0), (.ref r42)]))
  refine ogo (fun t k => XS.lloadN X42.here hx rfl (hb hby at_106) rfl k) ?_
  show OwnEnds _ _ _ _ _ _ _ (T42.setTop (mkF m 107 #[.val (.long q0), .second, .val (.long q1), .second, .val (.long q2), .second, .val (.long q3), .second, .val (.long q4), .second, .val (.long q5), .second, .val (.ref b1), .val (.ref b22), .val (.int ((((q0 ^^^ q5) &&& (2147483647 : Int64)).toInt32) % (48 : Int32))), .val (.ref r26), .val (.ref r42), .unset, .unset, .unset] [(.long q1), (.long q0), (.ref r42)]))
  refine ogo (fun t k => XS.lload X42.here hx rfl (hb hby at_107) rfl k) ?_
  show OwnEnds _ _ _ _ _ _ _ (T42.setTop (mkF m 109 #[.val (.long q0), .second, .val (.long q1), .second, .val (.long q2), .second, .val (.long q3), .second, .val (.long q4), .second, .val (.long q5), .second, .val (.ref b1), .val (.ref b22), .val (.int ((((q0 ^^^ q5) &&& (2147483647 : Int64)).toInt32) % (48 : Int32))), .val (.ref r26), .val (.ref r42), .unset, .unset, .unset] [(.long q2), (.long q1), (.long q0), (.ref r42)]))
  refine ogo (fun t k => XS.lload X42.here hx rfl (hb hby at_109) rfl k) ?_
  show OwnEnds _ _ _ _ _ _ _ (T42.setTop (mkF m 111 #[.val (.long q0), .second, .val (.long q1), .second, .val (.long q2), .second, .val (.long q3), .second, .val (.long q4), .second, .val (.long q5), .second, .val (.ref b1), .val (.ref b22), .val (.int ((((q0 ^^^ q5) &&& (2147483647 : Int64)).toInt32) % (48 : Int32))), .val (.ref r26), .val (.ref r42), .unset, .unset, .unset] [(.long q3), (.long q2), (.long q1), (.long q0), (.ref r42)]))
  refine ogo (fun t k => XS.lload X42.here hx rfl (hb hby at_111) rfl k) ?_
  show OwnEnds _ _ _ _ _ _ _ (T42.setTop (mkF m 113 #[.val (.long q0), .second, .val (.long q1), .second, .val (.long q2), .second, .val (.long q3), .second, .val (.long q4), .second, .val (.long q5), .second, .val (.ref b1), .val (.ref b22), .val (.int ((((q0 ^^^ q5) &&& (2147483647 : Int64)).toInt32) % (48 : Int32))), .val (.ref r26), .val (.ref r42), .unset, .unset, .unset] [(.long q4), (.long q3), (.long q2), (.long q1), (.long q0), (.ref r42)]))
  refine ogo (fun t k => XS.lload X42.here hx rfl (hb hby at_113) rfl k) ?_
  show OwnEnds _ _ _ _ _ _ _ (T42.setTop (mkF m 115 #[.val (.long q0), .second, .val (.long q1), .second, .val (.long q2), .second, .val (.long q3), .second, .val (.long q4), .second, .val (.long q5), .second, .val (.ref b1), .val (.ref b22), .val (.int ((((q0 ^^^ q5) &&& (2147483647 : Int64)).toInt32) % (48 : Int32))), .val (.ref r26), .val (.ref r42), .unset, .unset, .unset] [(.long q5), (.long q4), (.long q3), (.long q2), (.long q1), (.long q0), (.ref r42)]))
  obtain ⟨v51, _, ⟨T51, L51, k51, n51⟩, -, X51, ⟨Lc51, hQ51, l51, y51, z51⟩, st51⟩ := Jvm.LawKit.callS X42 hx (y := (⟨"com/example/opaque_token/opaquetoken/token/PinHashOfStoredPinLaw", "same", "([BJJJJJJ)Z"⟩ : MethodName)) hown (mvT hZ (hw _ (List.mem_of_getElem? (i := 34) rfl))) (mvT hZ (hw _ (List.mem_of_getElem? (i := 35) rfl))) (mvT hZ (hw _ (List.mem_of_getElem? (i := 3) rfl))) (mvT hZ (hw _ (List.mem_of_getElem? (i := 36) rfl))) (by decide) (backOf (W := 0) (rm3 l Z a0 hw [] r42 q0 q1 q2 q3 q4 q5 (own_all q0 q1 q2 q3 q4 q5) T42.heap n0 Z50 Vq42 (own_all_int q0 q1 q2 q3 q4 q5) (own_all_0 q0 q1 q2 q3 q4 q5) (own_all_1 q0 q1 q2 q3 q4 q5) (own_all_2 q0 q1 q2 q3 q4 q5) (own_all_3 q0 q1 q2 q3 q4 q5) (own_all_4 q0 q1 q2 q3 q4 q5) (own_all_5 q0 q1 q2 q3 q4 q5)) hZ (hw _ (List.mem_of_getElem? (i := 36) rfl)) (hw _ (List.mem_of_getElem? (i := 3) rfl)) (by decide) (by decide)) (g := (mkF m 115 #[.val (.long q0), .second, .val (.long q1), .second, .val (.long q2), .second, .val (.long q3), .second, .val (.long q4), .second, .val (.long q5), .second, .val (.ref b1), .val (.ref b22), .val (.int ((((q0 ^^^ q5) &&& (2147483647 : Int64)).toInt32) % (48 : Int32))), .val (.ref r26), .val (.ref r42), .unset, .unset, .unset] [(.long q5), (.long q4), (.long q3), (.long q2), (.long q1), (.long q0), (.ref r42)])) rfl (by rw [hml]; rfl) (argsL := [(.ref r42), (.long q0), (.long q1), (.long q2), (.long q3), (.long q4), (.long q5)]) (rest := []) (lenOf pd___BJJJJJJ_Z rfl) rfl (by show 2 * 0 + _ ≤ _; exact Nat.le_of_eq rfl) (hb hby at_115) (fun _ _ => ⟨rfl, rfl, (by decide : 5 + 0 ≤ _), (by decide : 145 + 0 ≤ _)⟩)
  dsimp only [Pt.U, Pt.locs, Pt.cells, Pt.slots] at X51 l51 y51 z51 st51 hQ51
  subst l51 y51 z51
  obtain ⟨rfl, N51q, e51⟩ := hQ51
  have N51 := Fr.app N42 N51q
  refine ogo (fun t k => st51 t k) ?_
  show OwnEnds _ _ _ _ _ _ _ (T51.setTop (mkF m 118 #[.val (.long q0), .second, .val (.long q1), .second, .val (.long q2), .second, .val (.long q3), .second, .val (.long q4), .second, .val (.long q5), .second, .val (.ref b1), .val (.ref b22), .val (.int ((((q0 ^^^ q5) &&& (2147483647 : Int64)).toInt32) % (48 : Int32))), .val (.ref r26), .val (.ref r42), .unset, .unset, .unset] [(.int (1 : Int32))]))
  refine ogo (fun t k => XS.istore X51.here hx rfl (hb hby at_118) rfl (l' := #[.val (.long q0), .second, .val (.long q1), .second, .val (.long q2), .second, .val (.long q3), .second, .val (.long q4), .second, .val (.long q5), .second, .val (.ref b1), .val (.ref b22), .val (.int ((((q0 ^^^ q5) &&& (2147483647 : Int64)).toInt32) % (48 : Int32))), .val (.ref r26), .val (.ref r42), .val (.int (1 : Int32)), .unset, .unset]) rfl k) ?_
  show OwnEnds _ _ _ _ _ _ _ (T51.setTop (mkF m 120 #[.val (.long q0), .second, .val (.long q1), .second, .val (.long q2), .second, .val (.long q3), .second, .val (.long q4), .second, .val (.long q5), .second, .val (.ref b1), .val (.ref b22), .val (.int ((((q0 ^^^ q5) &&& (2147483647 : Int64)).toInt32) % (48 : Int32))), .val (.ref r26), .val (.ref r42), .val (.int (1 : Int32)), .unset, .unset] []))
  refine ogo (fun t k => XS.aload X51.here hx rfl (hb hby at_120) rfl rfl k) ?_
  show OwnEnds _ _ _ _ _ _ _ (T51.setTop (mkF m 122 #[.val (.long q0), .second, .val (.long q1), .second, .val (.long q2), .second, .val (.long q3), .second, .val (.long q4), .second, .val (.long q5), .second, .val (.ref b1), .val (.ref b22), .val (.int ((((q0 ^^^ q5) &&& (2147483647 : Int64)).toInt32) % (48 : Int32))), .val (.ref r26), .val (.ref r42), .val (.int (1 : Int32)), .unset, .unset] [(.ref r42)]))
  obtain ⟨ak52, cl52, Ar52, Aq52, As52, An52, Ah52, Ag52⟩ := id Vq42
  refine ogo (fun t k => X51.arraylength hx (by rw [e51]; exact Ar52.1) (State.isArrayOf_alike hZ.alike Ar52.2.1) (g := (mkF m 122 #[.val (.long q0), .second, .val (.long q1), .second, .val (.long q2), .second, .val (.long q3), .second, .val (.long q4), .second, .val (.long q5), .second, .val (.ref b1), .val (.ref b22), .val (.int ((((q0 ^^^ q5) &&& (2147483647 : Int64)).toInt32) % (48 : Int32))), .val (.ref r26), .val (.ref r42), .val (.int (1 : Int32)), .unset, .unset] [(.ref r42)])) rfl rfl (hb hby at_122) t k) ?_
  rw [len_of As52 An52]
  show OwnEnds _ _ _ _ _ _ _ (T51.setTop (mkF m 123 #[.val (.long q0), .second, .val (.long q1), .second, .val (.long q2), .second, .val (.long q3), .second, .val (.long q4), .second, .val (.long q5), .second, .val (.ref b1), .val (.ref b22), .val (.int ((((q0 ^^^ q5) &&& (2147483647 : Int64)).toInt32) % (48 : Int32))), .val (.ref r26), .val (.ref r42), .val (.int (1 : Int32)), .unset, .unset] [(.int (48 : Int32))]))
  refine ogo (fun t k => XS.iload X51.here hx rfl (hb hby at_123) rfl k) ?_
  show OwnEnds _ _ _ _ _ _ _ (T51.setTop (mkF m 125 #[.val (.long q0), .second, .val (.long q1), .second, .val (.long q2), .second, .val (.long q3), .second, .val (.long q4), .second, .val (.long q5), .second, .val (.ref b1), .val (.ref b22), .val (.int ((((q0 ^^^ q5) &&& (2147483647 : Int64)).toInt32) % (48 : Int32))), .val (.ref r26), .val (.ref r42), .val (.int (1 : Int32)), .unset, .unset] [(.int ((((q0 ^^^ q5) &&& (2147483647 : Int64)).toInt32) % (48 : Int32))), (.int (48 : Int32))]))
  refine ogo (fun t k => XS.icmpNo X51.here hx rfl (hb hby at_125) rfl (tlt (own_kb _).2).2.2.2 k) ?_
  show OwnEnds _ _ _ _ _ _ _ (T51.setTop (mkF m 128 #[.val (.long q0), .second, .val (.long q1), .second, .val (.long q2), .second, .val (.long q3), .second, .val (.long q4), .second, .val (.long q5), .second, .val (.ref b1), .val (.ref b22), .val (.int ((((q0 ^^^ q5) &&& (2147483647 : Int64)).toInt32) % (48 : Int32))), .val (.ref r26), .val (.ref r42), .val (.int (1 : Int32)), .unset, .unset] []))
  refine ogo (fun t k => XS.aload X51.here hx rfl (hb hby at_128) rfl rfl k) ?_
  show OwnEnds _ _ _ _ _ _ _ (T51.setTop (mkF m 130 #[.val (.long q0), .second, .val (.long q1), .second, .val (.long q2), .second, .val (.long q3), .second, .val (.long q4), .second, .val (.long q5), .second, .val (.ref b1), .val (.ref b22), .val (.int ((((q0 ^^^ q5) &&& (2147483647 : Int64)).toInt32) % (48 : Int32))), .val (.ref r26), .val (.ref r42), .val (.int (1 : Int32)), .unset, .unset] [(.ref r42)]))
  refine ogo (fun t k => XS.iload X51.here hx rfl (hb hby at_130) rfl k) ?_
  show OwnEnds _ _ _ _ _ _ _ (T51.setTop (mkF m 132 #[.val (.long q0), .second, .val (.long q1), .second, .val (.long q2), .second, .val (.long q3), .second, .val (.long q4), .second, .val (.long q5), .second, .val (.ref b1), .val (.ref b22), .val (.int ((((q0 ^^^ q5) &&& (2147483647 : Int64)).toInt32) % (48 : Int32))), .val (.ref r26), .val (.ref r42), .val (.int (1 : Int32)), .unset, .unset] [(.int ((((q0 ^^^ q5) &&& (2147483647 : Int64)).toInt32) % (48 : Int32))), (.ref r42)]))
  refine ogo (fun t k => XS.aload X51.here hx rfl (hb hby at_132) rfl rfl k) ?_
  show OwnEnds _ _ _ _ _ _ _ (T51.setTop (mkF m 134 #[.val (.long q0), .second, .val (.long q1), .second, .val (.long q2), .second, .val (.long q3), .second, .val (.long q4), .second, .val (.long q5), .second, .val (.ref b1), .val (.ref b22), .val (.int ((((q0 ^^^ q5) &&& (2147483647 : Int64)).toInt32) % (48 : Int32))), .val (.ref r26), .val (.ref r42), .val (.int (1 : Int32)), .unset, .unset] [(.ref r42), (.int ((((q0 ^^^ q5) &&& (2147483647 : Int64)).toInt32) % (48 : Int32))), (.ref r42)]))
  refine ogo (fun t k => XS.iload X51.here hx rfl (hb hby at_134) rfl k) ?_
  show OwnEnds _ _ _ _ _ _ _ (T51.setTop (mkF m 136 #[.val (.long q0), .second, .val (.long q1), .second, .val (.long q2), .second, .val (.long q3), .second, .val (.long q4), .second, .val (.long q5), .second, .val (.ref b1), .val (.ref b22), .val (.int ((((q0 ^^^ q5) &&& (2147483647 : Int64)).toInt32) % (48 : Int32))), .val (.ref r26), .val (.ref r42), .val (.int (1 : Int32)), .unset, .unset] [(.int ((((q0 ^^^ q5) &&& (2147483647 : Int64)).toInt32) % (48 : Int32))), (.ref r42), (.int ((((q0 ^^^ q5) &&& (2147483647 : Int64)).toInt32) % (48 : Int32))), (.ref r42)]))
  obtain ⟨ak53, cl53, Ar53, Aq53, As53, An53, Ah53, Ag53⟩ := id Vq42
  refine ogo (fun t k => X51.baloadBytes hx (j := ((((q0 ^^^ q5) &&& (2147483647 : Int64)).toInt32) % (48 : Int32))) (v := (.int (own_at (own_all q0 q1 q2 q3 q4 q5) (((((q0 ^^^ q5) &&& (2147483647 : Int64)).toInt32) % (48 : Int32))).toNatClampNeg))) (by rw [e51]; exact Ar53.1) (State.isArrayOf_alike hZ.alike Ar53.2.1) Ar53.2.2 (inb_of As53 (own_kb _)) (Ah53.at (inb_of As53 (own_kb _)) (own_at_eq (own_all_int q0 q1 q2 q3 q4 q5) _)) (g := (mkF m 136 #[.val (.long q0), .second, .val (.long q1), .second, .val (.long q2), .second, .val (.long q3), .second, .val (.long q4), .second, .val (.long q5), .second, .val (.ref b1), .val (.ref b22), .val (.int ((((q0 ^^^ q5) &&& (2147483647 : Int64)).toInt32) % (48 : Int32))), .val (.ref r26), .val (.ref r42), .val (.int (1 : Int32)), .unset, .unset] [(.int ((((q0 ^^^ q5) &&& (2147483647 : Int64)).toInt32) % (48 : Int32))), (.ref r42), (.int ((((q0 ^^^ q5) &&& (2147483647 : Int64)).toInt32) % (48 : Int32))), (.ref r42)])) rfl rfl (hb hby at_136) t k) ?_
  show OwnEnds _ _ _ _ _ _ _ (T51.setTop (mkF m 137 #[.val (.long q0), .second, .val (.long q1), .second, .val (.long q2), .second, .val (.long q3), .second, .val (.long q4), .second, .val (.long q5), .second, .val (.ref b1), .val (.ref b22), .val (.int ((((q0 ^^^ q5) &&& (2147483647 : Int64)).toInt32) % (48 : Int32))), .val (.ref r26), .val (.ref r42), .val (.int (1 : Int32)), .unset, .unset] [(.int (own_at (own_all q0 q1 q2 q3 q4 q5) (((((q0 ^^^ q5) &&& (2147483647 : Int64)).toInt32) % (48 : Int32))).toNatClampNeg)), (.int ((((q0 ^^^ q5) &&& (2147483647 : Int64)).toInt32) % (48 : Int32))), (.ref r42)]))
  refine ogo (fun t k => XS.iconst X51.here hx rfl (hb hby at_137) k) ?_
  show OwnEnds _ _ _ _ _ _ _ (T51.setTop (mkF m 138 #[.val (.long q0), .second, .val (.long q1), .second, .val (.long q2), .second, .val (.long q3), .second, .val (.long q4), .second, .val (.long q5), .second, .val (.ref b1), .val (.ref b22), .val (.int ((((q0 ^^^ q5) &&& (2147483647 : Int64)).toInt32) % (48 : Int32))), .val (.ref r26), .val (.ref r42), .val (.int (1 : Int32)), .unset, .unset] [(.int (1 : Int32)), (.int (own_at (own_all q0 q1 q2 q3 q4 q5) (((((q0 ^^^ q5) &&& (2147483647 : Int64)).toInt32) % (48 : Int32))).toNatClampNeg)), (.int ((((q0 ^^^ q5) &&& (2147483647 : Int64)).toInt32) % (48 : Int32))), (.ref r42)]))
  refine ogo (fun t k => XS.ixor X51.here hx rfl (hb hby at_138) rfl k) ?_
  show OwnEnds _ _ _ _ _ _ _ (T51.setTop (mkF m 139 #[.val (.long q0), .second, .val (.long q1), .second, .val (.long q2), .second, .val (.long q3), .second, .val (.long q4), .second, .val (.long q5), .second, .val (.ref b1), .val (.ref b22), .val (.int ((((q0 ^^^ q5) &&& (2147483647 : Int64)).toInt32) % (48 : Int32))), .val (.ref r26), .val (.ref r42), .val (.int (1 : Int32)), .unset, .unset] [(.int ((own_at (own_all q0 q1 q2 q3 q4 q5) (((((q0 ^^^ q5) &&& (2147483647 : Int64)).toInt32) % (48 : Int32))).toNatClampNeg) ^^^ (1 : Int32))), (.int ((((q0 ^^^ q5) &&& (2147483647 : Int64)).toInt32) % (48 : Int32))), (.ref r42)]))
  refine ogo (fun t k => XS.i2b X51.here hx rfl (hb hby at_139) rfl k) ?_
  show OwnEnds _ _ _ _ _ _ _ (T51.setTop (mkF m 140 #[.val (.long q0), .second, .val (.long q1), .second, .val (.long q2), .second, .val (.long q3), .second, .val (.long q4), .second, .val (.long q5), .second, .val (.ref b1), .val (.ref b22), .val (.int ((((q0 ^^^ q5) &&& (2147483647 : Int64)).toInt32) % (48 : Int32))), .val (.ref r26), .val (.ref r42), .val (.int (1 : Int32)), .unset, .unset] [(.int (((own_at (own_all q0 q1 q2 q3 q4 q5) (((((q0 ^^^ q5) &&& (2147483647 : Int64)).toInt32) % (48 : Int32))).toNatClampNeg) ^^^ (1 : Int32)).toInt8.toInt32)), (.int ((((q0 ^^^ q5) &&& (2147483647 : Int64)).toInt32) % (48 : Int32))), (.ref r42)]))
  obtain ⟨ak54, cl54, Ar54, Aq54, As54, An54, Ah54, Ag54⟩ := id Vq42
  obtain ⟨T54, h54, X54, e54, W54, st54⟩ := stB X51 hx hZ e51 Ar54 (j := ((((q0 ^^^ q5) &&& (2147483647 : Int64)).toInt32) % (48 : Int32))) (inb_of As54 (own_kb _)) (g := (mkF m 140 #[.val (.long q0), .second, .val (.long q1), .second, .val (.long q2), .second, .val (.long q3), .second, .val (.long q4), .second, .val (.long q5), .second, .val (.ref b1), .val (.ref b22), .val (.int ((((q0 ^^^ q5) &&& (2147483647 : Int64)).toInt32) % (48 : Int32))), .val (.ref r26), .val (.ref r42), .val (.int (1 : Int32)), .unset, .unset] [(.int (((own_at (own_all q0 q1 q2 q3 q4 q5) (((((q0 ^^^ q5) &&& (2147483647 : Int64)).toInt32) % (48 : Int32))).toNatClampNeg) ^^^ (1 : Int32)).toInt8.toInt32)), (.int ((((q0 ^^^ q5) &&& (2147483647 : Int64)).toInt32) % (48 : Int32))), (.ref r42)])) rfl rfl (hb hby at_140)
  have f55 := f43.wr W54
  have f56 := f44.other W54 ne_b22_r42
  have f57 := f45.wr W54
  have f58 := f46.wr W54
  have f59 := f47.other W54 (Or.inl ne_r26_r42)
  have f60 := f48.other W54 ne_x26_r42
  have f61 := f49.wr W54
  have f62 := Eq42.wr W54
  have N63 := Fr.snoc X54 N51 q_r42
  have OLD63 := OLD50.wr W54 q_r42
  have K63 := K50.wr W54 (Or.inr sz_r42)
  have Z63 := Nat.le_trans Z50 (Nat.le_of_eq W54.size.symm)
  refine ogo st54 ?_
  show OwnEnds _ _ _ _ _ _ _ (T54.setTop (mkF m 141 #[.val (.long q0), .second, .val (.long q1), .second, .val (.long q2), .second, .val (.long q3), .second, .val (.long q4), .second, .val (.long q5), .second, .val (.ref b1), .val (.ref b22), .val (.int ((((q0 ^^^ q5) &&& (2147483647 : Int64)).toInt32) % (48 : Int32))), .val (.ref r26), .val (.ref r42), .val (.int (1 : Int32)), .unset, .unset] []))
  refine ogo (fun t k => XS.aload X54.here hx rfl (hb hby at_141) rfl rfl k) ?_
  show OwnEnds _ _ _ _ _ _ _ (T54.setTop (mkF m 143 #[.val (.long q0), .second, .val (.long q1), .second, .val (.long q2), .second, .val (.long q3), .second, .val (.long q4), .second, .val (.long q5), .second, .val (.ref b1), .val (.ref b22), .val (.int ((((q0 ^^^ q5) &&& (2147483647 : Int64)).toInt32) % (48 : Int32))), .val (.ref r26), .val (.ref r42), .val (.int (1 : Int32)), .unset, .unset] [(.ref r26)]))
  obtain ⟨cq64, kq64, q64a, q64b, q64c⟩ := isOf hZ e54 f58
  obtain ⟨v64, _, ⟨T64, L64, k64, n64⟩, -, X64, ⟨Lc64, hQ64, l64, y64, z64⟩, st64⟩ := X54.virtualBack hx (y := (⟨"com/example/opaque_token/opaquetoken/token/PinHash", "stored", "()[B"⟩ : MethodName)) (z := (⟨"com/example/opaque_token/opaquetoken/token/PinHash", "stored", "()[B"⟩ : MethodName)) hown (mvT hZ (hw _ (List.mem_of_getElem? (i := 29) rfl))) (mvT hZ (hw _ (List.mem_of_getElem? (i := 30) rfl))) (notFace_of_selects (args := #[]) (mvT hZ (hw _ (List.mem_of_getElem? (i := 32) rfl)))) (mvT hZ (hw _ (List.mem_of_getElem? (i := 32) rfl))) (mvT hZ (hw _ (List.mem_of_getElem? (i := 31) rfl))) (by decide) (backOf (W := 0) (rm7 l Z a0 hw [] r26 x26 (own_all q0 q1 q2 q3 q4 q5) h54 n0 Z63 OLD63 f59 f60 f61) hZ (hw _ (List.mem_of_getElem? (i := 33) rfl)) (hw _ (List.mem_of_getElem? (i := 8) rfl)) (by decide) (by decide)) q64a q64c (g := (mkF m 143 #[.val (.long q0), .second, .val (.long q1), .second, .val (.long q2), .second, .val (.long q3), .second, .val (.long q4), .second, .val (.long q5), .second, .val (.ref b1), .val (.ref b22), .val (.int ((((q0 ^^^ q5) &&& (2147483647 : Int64)).toInt32) % (48 : Int32))), .val (.ref r26), .val (.ref r42), .val (.int (1 : Int32)), .unset, .unset] [(.ref r26)])) rfl (by rw [hml]; rfl) (Steps.refl _) (argsL := []) (rest := []) (lenOf pd____B rfl) rfl (by show 2 * 0 + _ ≤ _; exact Nat.le_of_eq rfl) (hb hby at_143) (fun _ _ => ⟨rfl, e54, (by decide : 5 + 1 ≤ _), (by decide : 145 + 48 ≤ _)⟩)
  dsimp only [Pt.U, Pt.locs, Pt.cells, Pt.slots] at X64 l64 y64 z64 st64 hQ64
  subst l64 y64 z64
  obtain ⟨r64, rfl, Sq64, N64q, Kq64, Vq64, Eq64⟩ := hQ64
  have N64 := Fr.app N63 N64q
  have ne_b1_r64 : b1 ≠ r64 := Nat.ne_of_lt (Nat.lt_of_lt_of_le (f55).lt Sq64)
  have ne_b22_r64 : b22 ≠ r64 := Nat.ne_of_lt (Nat.lt_of_lt_of_le (f56).lt Sq64)
  have ne_r26_r64 : r26 ≠ r64 := Nat.ne_of_lt (Nat.lt_of_lt_of_le (f58).lt Sq64)
  have ne_x26_r64 : x26 ≠ r64 := Nat.ne_of_lt (Nat.lt_of_lt_of_le (f60).lt Sq64)
  have ne_r42_r64 : r42 ≠ r64 := Nat.ne_of_lt (Nat.lt_of_lt_of_le (f62).lt Sq64)
  have q_r64 : n0 ≤ r64 := Nat.le_trans Z63 Sq64
  have sz_r64 : h0.size ≤ r64 := Nat.le_trans K63.1 Sq64
  have f65 := f55.keep Kq64
  have f66 := f56.keep Kq64 nin0
  have f67 := f57.keep Kq64
  have f68 := f58.keep Kq64
  have f69 := f59.keep Kq64 nin0
  have f70 := f60.keep Kq64 nin0
  have f71 := f61.keep Kq64
  have f72 := f62.keep Kq64
  have OLD73 := OLD63.keep Kq64 all0
  have K73 := K63.trans Kq64 all0
  have Z73 := Nat.le_trans Z63 Kq64.1
  refine ogo (fun t k => st64.trans k) ?_
  show OwnEnds _ _ _ _ _ _ _ (T64.setTop (mkF m 146 #[.val (.long q0), .second, .val (.long q1), .second, .val (.long q2), .second, .val (.long q3), .second, .val (.long q4), .second, .val (.long q5), .second, .val (.ref b1), .val (.ref b22), .val (.int ((((q0 ^^^ q5) &&& (2147483647 : Int64)).toInt32) % (48 : Int32))), .val (.ref r26), .val (.ref r42), .val (.int (1 : Int32)), .unset, .unset] [(.ref r64)]))
  refine ogo (fun t k => XS.astore X64.here hx rfl (hb hby at_146) rfl rfl (l' := #[.val (.long q0), .second, .val (.long q1), .second, .val (.long q2), .second, .val (.long q3), .second, .val (.long q4), .second, .val (.long q5), .second, .val (.ref b1), .val (.ref b22), .val (.int ((((q0 ^^^ q5) &&& (2147483647 : Int64)).toInt32) % (48 : Int32))), .val (.ref r26), .val (.ref r42), .val (.int (1 : Int32)), .val (.ref r64), .unset]) rfl k) ?_
  show OwnEnds _ _ _ _ _ _ _ (T64.setTop (mkF m 148 #[.val (.long q0), .second, .val (.long q1), .second, .val (.long q2), .second, .val (.long q3), .second, .val (.long q4), .second, .val (.long q5), .second, .val (.ref b1), .val (.ref b22), .val (.int ((((q0 ^^^ q5) &&& (2147483647 : Int64)).toInt32) % (48 : Int32))), .val (.ref r26), .val (.ref r42), .val (.int (1 : Int32)), .val (.ref r64), .unset] []))
  refine ogo (fun t k => XS.iload X64.here hx rfl (hb hby at_148) rfl k) ?_
  show OwnEnds _ _ _ _ _ _ _ (T64.setTop (mkF m 150 #[.val (.long q0), .second, .val (.long q1), .second, .val (.long q2), .second, .val (.long q3), .second, .val (.long q4), .second, .val (.long q5), .second, .val (.ref b1), .val (.ref b22), .val (.int ((((q0 ^^^ q5) &&& (2147483647 : Int64)).toInt32) % (48 : Int32))), .val (.ref r26), .val (.ref r42), .val (.int (1 : Int32)), .val (.ref r64), .unset] [(.int (1 : Int32))]))
  refine ogo (fun t k => XS.ifNo X64.here hx rfl (hb hby at_150) rfl ((if0 _ _).trans (feq (by decide : ¬ ((1 : Int32) = (0 : Int32)))).1) k) ?_
  show OwnEnds _ _ _ _ _ _ _ (T64.setTop (mkF m 153 #[.val (.long q0), .second, .val (.long q1), .second, .val (.long q2), .second, .val (.long q3), .second, .val (.long q4), .second, .val (.long q5), .second, .val (.ref b1), .val (.ref b22), .val (.int ((((q0 ^^^ q5) &&& (2147483647 : Int64)).toInt32) % (48 : Int32))), .val (.ref r26), .val (.ref r42), .val (.int (1 : Int32)), .val (.ref r64), .unset] []))
  refine ogo (fun t k => XS.aload X64.here hx rfl (hb hby at_153) rfl rfl k) ?_
  show OwnEnds _ _ _ _ _ _ _ (T64.setTop (mkF m 155 #[.val (.long q0), .second, .val (.long q1), .second, .val (.long q2), .second, .val (.long q3), .second, .val (.long q4), .second, .val (.long q5), .second, .val (.ref b1), .val (.ref b22), .val (.int ((((q0 ^^^ q5) &&& (2147483647 : Int64)).toInt32) % (48 : Int32))), .val (.ref r26), .val (.ref r42), .val (.int (1 : Int32)), .val (.ref r64), .unset] [(.ref r64)]))
  refine ogo (fun t k => XS.lloadN X64.here hx rfl (hb hby at_155) rfl k) ?_
  show OwnEnds _ _ _ _ _ _ _ (T64.setTop (mkF m 156 #[.val (.long q0), .second, .val (.long q1), .second, .val (.long q2), .second, .val (.long q3), .second, .val (.long q4), .second, .val (.long q5), .second, .val (.ref b1), .val (.ref b22), .val (.int ((((q0 ^^^ q5) &&& (2147483647 : Int64)).toInt32) % (48 : Int32))), .val (.ref r26), .val (.ref r42), .val (.int (1 : Int32)), .val (.ref r64), .unset] [(.long q0), (.ref r64)]))
  refine ogo (fun t k => XS.lloadN X64.here hx rfl (hb hby at_156) rfl k) ?_
  show OwnEnds _ _ _ _ _ _ _ (T64.setTop (mkF m 157 #[.val (.long q0), .second, .val (.long q1), .second, .val (.long q2), .second, .val (.long q3), .second, .val (.long q4), .second, .val (.long q5), .second, .val (.ref b1), .val (.ref b22), .val (.int ((((q0 ^^^ q5) &&& (2147483647 : Int64)).toInt32) % (48 : Int32))), .val (.ref r26), .val (.ref r42), .val (.int (1 : Int32)), .val (.ref r64), .unset] [(.long q1), (.long q0), (.ref r64)]))
  refine ogo (fun t k => XS.lload X64.here hx rfl (hb hby at_157) rfl k) ?_
  show OwnEnds _ _ _ _ _ _ _ (T64.setTop (mkF m 159 #[.val (.long q0), .second, .val (.long q1), .second, .val (.long q2), .second, .val (.long q3), .second, .val (.long q4), .second, .val (.long q5), .second, .val (.ref b1), .val (.ref b22), .val (.int ((((q0 ^^^ q5) &&& (2147483647 : Int64)).toInt32) % (48 : Int32))), .val (.ref r26), .val (.ref r42), .val (.int (1 : Int32)), .val (.ref r64), .unset] [(.long q2), (.long q1), (.long q0), (.ref r64)]))
  refine ogo (fun t k => XS.lload X64.here hx rfl (hb hby at_159) rfl k) ?_
  show OwnEnds _ _ _ _ _ _ _ (T64.setTop (mkF m 161 #[.val (.long q0), .second, .val (.long q1), .second, .val (.long q2), .second, .val (.long q3), .second, .val (.long q4), .second, .val (.long q5), .second, .val (.ref b1), .val (.ref b22), .val (.int ((((q0 ^^^ q5) &&& (2147483647 : Int64)).toInt32) % (48 : Int32))), .val (.ref r26), .val (.ref r42), .val (.int (1 : Int32)), .val (.ref r64), .unset] [(.long q3), (.long q2), (.long q1), (.long q0), (.ref r64)]))
  refine ogo (fun t k => XS.lload X64.here hx rfl (hb hby at_161) rfl k) ?_
  show OwnEnds _ _ _ _ _ _ _ (T64.setTop (mkF m 163 #[.val (.long q0), .second, .val (.long q1), .second, .val (.long q2), .second, .val (.long q3), .second, .val (.long q4), .second, .val (.long q5), .second, .val (.ref b1), .val (.ref b22), .val (.int ((((q0 ^^^ q5) &&& (2147483647 : Int64)).toInt32) % (48 : Int32))), .val (.ref r26), .val (.ref r42), .val (.int (1 : Int32)), .val (.ref r64), .unset] [(.long q4), (.long q3), (.long q2), (.long q1), (.long q0), (.ref r64)]))
  refine ogo (fun t k => XS.lload X64.here hx rfl (hb hby at_163) rfl k) ?_
  show OwnEnds _ _ _ _ _ _ _ (T64.setTop (mkF m 165 #[.val (.long q0), .second, .val (.long q1), .second, .val (.long q2), .second, .val (.long q3), .second, .val (.long q4), .second, .val (.long q5), .second, .val (.ref b1), .val (.ref b22), .val (.int ((((q0 ^^^ q5) &&& (2147483647 : Int64)).toInt32) % (48 : Int32))), .val (.ref r26), .val (.ref r42), .val (.int (1 : Int32)), .val (.ref r64), .unset] [(.long q5), (.long q4), (.long q3), (.long q2), (.long q1), (.long q0), (.ref r64)]))
  obtain ⟨v74, _, ⟨T74, L74, k74, n74⟩, -, X74, ⟨Lc74, hQ74, l74, y74, z74⟩, st74⟩ := Jvm.LawKit.callS X64 hx (y := (⟨"com/example/opaque_token/opaquetoken/token/PinHashOfStoredPinLaw", "same", "([BJJJJJJ)Z"⟩ : MethodName)) hown (mvT hZ (hw _ (List.mem_of_getElem? (i := 34) rfl))) (mvT hZ (hw _ (List.mem_of_getElem? (i := 35) rfl))) (mvT hZ (hw _ (List.mem_of_getElem? (i := 3) rfl))) (mvT hZ (hw _ (List.mem_of_getElem? (i := 36) rfl))) (by decide) (backOf (W := 0) (rm3 l Z a0 hw [] r64 q0 q1 q2 q3 q4 q5 (own_all q0 q1 q2 q3 q4 q5) T64.heap n0 Z73 Vq64 (own_all_int q0 q1 q2 q3 q4 q5) (own_all_0 q0 q1 q2 q3 q4 q5) (own_all_1 q0 q1 q2 q3 q4 q5) (own_all_2 q0 q1 q2 q3 q4 q5) (own_all_3 q0 q1 q2 q3 q4 q5) (own_all_4 q0 q1 q2 q3 q4 q5) (own_all_5 q0 q1 q2 q3 q4 q5)) hZ (hw _ (List.mem_of_getElem? (i := 36) rfl)) (hw _ (List.mem_of_getElem? (i := 3) rfl)) (by decide) (by decide)) (g := (mkF m 165 #[.val (.long q0), .second, .val (.long q1), .second, .val (.long q2), .second, .val (.long q3), .second, .val (.long q4), .second, .val (.long q5), .second, .val (.ref b1), .val (.ref b22), .val (.int ((((q0 ^^^ q5) &&& (2147483647 : Int64)).toInt32) % (48 : Int32))), .val (.ref r26), .val (.ref r42), .val (.int (1 : Int32)), .val (.ref r64), .unset] [(.long q5), (.long q4), (.long q3), (.long q2), (.long q1), (.long q0), (.ref r64)])) rfl (by rw [hml]; rfl) (argsL := [(.ref r64), (.long q0), (.long q1), (.long q2), (.long q3), (.long q4), (.long q5)]) (rest := []) (lenOf pd___BJJJJJJ_Z rfl) rfl (by show 2 * 0 + _ ≤ _; exact Nat.le_of_eq rfl) (hb hby at_165) (fun _ _ => ⟨rfl, rfl, (by decide : 6 + 0 ≤ _), (by decide : 193 + 0 ≤ _)⟩)
  dsimp only [Pt.U, Pt.locs, Pt.cells, Pt.slots] at X74 l74 y74 z74 st74 hQ74
  subst l74 y74 z74
  obtain ⟨rfl, N74q, e74⟩ := hQ74
  have N74 := Fr.app N64 N74q
  refine ogo (fun t k => st74 t k) ?_
  show OwnEnds _ _ _ _ _ _ _ (T74.setTop (mkF m 168 #[.val (.long q0), .second, .val (.long q1), .second, .val (.long q2), .second, .val (.long q3), .second, .val (.long q4), .second, .val (.long q5), .second, .val (.ref b1), .val (.ref b22), .val (.int ((((q0 ^^^ q5) &&& (2147483647 : Int64)).toInt32) % (48 : Int32))), .val (.ref r26), .val (.ref r42), .val (.int (1 : Int32)), .val (.ref r64), .unset] [(.int (1 : Int32))]))
  refine ogo (fun t k => XS.ifNo X74.here hx rfl (hb hby at_168) rfl ((if0 _ _).trans (feq (by decide : ¬ ((1 : Int32) = (0 : Int32)))).1) k) ?_
  show OwnEnds _ _ _ _ _ _ _ (T74.setTop (mkF m 171 #[.val (.long q0), .second, .val (.long q1), .second, .val (.long q2), .second, .val (.long q3), .second, .val (.long q4), .second, .val (.long q5), .second, .val (.ref b1), .val (.ref b22), .val (.int ((((q0 ^^^ q5) &&& (2147483647 : Int64)).toInt32) % (48 : Int32))), .val (.ref r26), .val (.ref r42), .val (.int (1 : Int32)), .val (.ref r64), .unset] []))
  refine ogo (fun t k => XS.iconst X74.here hx rfl (hb hby at_171) k) ?_
  show OwnEnds _ _ _ _ _ _ _ (T74.setTop (mkF m 172 #[.val (.long q0), .second, .val (.long q1), .second, .val (.long q2), .second, .val (.long q3), .second, .val (.long q4), .second, .val (.long q5), .second, .val (.ref b1), .val (.ref b22), .val (.int ((((q0 ^^^ q5) &&& (2147483647 : Int64)).toInt32) % (48 : Int32))), .val (.ref r26), .val (.ref r42), .val (.int (1 : Int32)), .val (.ref r64), .unset] [(.int (1 : Int32))]))
  refine ogo (fun t k => XS.goto X74.here hx rfl (pc0 := 172) (pc' := 176) rfl (hb hby at_172) (by decide) (by decide) k) ?_
  show OwnEnds _ _ _ _ _ _ _ (T74.setTop (mkF m 176 #[.val (.long q0), .second, .val (.long q1), .second, .val (.long q2), .second, .val (.long q3), .second, .val (.long q4), .second, .val (.long q5), .second, .val (.ref b1), .val (.ref b22), .val (.int ((((q0 ^^^ q5) &&& (2147483647 : Int64)).toInt32) % (48 : Int32))), .val (.ref r26), .val (.ref r42), .val (.int (1 : Int32)), .val (.ref r64), .unset] [(.int (1 : Int32))]))
  refine ogo (fun t k => XS.istore X74.here hx rfl (hb hby at_176) rfl (l' := #[.val (.long q0), .second, .val (.long q1), .second, .val (.long q2), .second, .val (.long q3), .second, .val (.long q4), .second, .val (.long q5), .second, .val (.ref b1), .val (.ref b22), .val (.int ((((q0 ^^^ q5) &&& (2147483647 : Int64)).toInt32) % (48 : Int32))), .val (.ref r26), .val (.ref r42), .val (.int (1 : Int32)), .val (.ref r64), .unset]) rfl k) ?_
  show OwnEnds _ _ _ _ _ _ _ (T74.setTop (mkF m 178 #[.val (.long q0), .second, .val (.long q1), .second, .val (.long q2), .second, .val (.long q3), .second, .val (.long q4), .second, .val (.long q5), .second, .val (.ref b1), .val (.ref b22), .val (.int ((((q0 ^^^ q5) &&& (2147483647 : Int64)).toInt32) % (48 : Int32))), .val (.ref r26), .val (.ref r42), .val (.int (1 : Int32)), .val (.ref r64), .unset] []))
  refine ogo (fun t k => XS.aload X74.here hx rfl (hb hby at_178) rfl rfl k) ?_
  show OwnEnds _ _ _ _ _ _ _ (T74.setTop (mkF m 180 #[.val (.long q0), .second, .val (.long q1), .second, .val (.long q2), .second, .val (.long q3), .second, .val (.long q4), .second, .val (.long q5), .second, .val (.ref b1), .val (.ref b22), .val (.int ((((q0 ^^^ q5) &&& (2147483647 : Int64)).toInt32) % (48 : Int32))), .val (.ref r26), .val (.ref r42), .val (.int (1 : Int32)), .val (.ref r64), .unset] [(.ref b22)]))
  obtain ⟨v75, _, ⟨T75, L75, k75, n75⟩, -, X75, ⟨Lc75, hQ75, l75, y75, z75⟩, st75⟩ := Jvm.LawKit.callS X74 hx (y := (⟨"com/example/opaque_token/opaquetoken/token/PinHash", "ofStored", "([B)Lcom/example/opaque_token/opaquetoken/token/PinHash;"⟩ : MethodName)) hown (mvT hZ (hw _ (List.mem_of_getElem? (i := 6) rfl))) (mvT hZ (hw _ (List.mem_of_getElem? (i := 7) rfl))) (mvT hZ (hw _ (List.mem_of_getElem? (i := 8) rfl))) (mvT hZ (hw _ (List.mem_of_getElem? (i := 9) rfl))) (by decide) (backOf (W := 0) (rm6 l Z a0 hw [] b22 [] T64.heap n0 Z73 OLD73 ⟨_, f66⟩ f67) hZ (hw _ (List.mem_of_getElem? (i := 9) rfl)) (hw _ (List.mem_of_getElem? (i := 8) rfl)) (by decide) (by decide)) (g := (mkF m 180 #[.val (.long q0), .second, .val (.long q1), .second, .val (.long q2), .second, .val (.long q3), .second, .val (.long q4), .second, .val (.long q5), .second, .val (.ref b1), .val (.ref b22), .val (.int ((((q0 ^^^ q5) &&& (2147483647 : Int64)).toInt32) % (48 : Int32))), .val (.ref r26), .val (.ref r42), .val (.int (1 : Int32)), .val (.ref r64), .unset] [(.ref b22)])) rfl (by rw [hml]; rfl) (argsL := [(.ref b22)]) (rest := []) (lenOf pd___B_Lcom_example_opaque_token_opaquetoken_token_PinHash_ rfl) rfl (by show 2 * 0 + _ ≤ _; exact Nat.le_of_eq rfl) (hb hby at_180) (fun _ _ => ⟨rfl, e74, (by decide : 6 + 2 ≤ _), (by decide : 193 + 1 ≤ _)⟩)
  dsimp only [Pt.U, Pt.locs, Pt.cells, Pt.slots] at X75 l75 y75 z75 st75 hQ75
  subst l75 y75 z75
  obtain ⟨r75, x75, rfl, Sq75, Sp75, N75q, Kq75, Eq75, Fq75, Vq75, Ec75⟩ := hQ75
  have N75 := Fr.app N74 N75q
  have ne_b1_r75 : b1 ≠ r75 := Nat.ne_of_lt (Nat.lt_of_lt_of_le (f65).lt Sq75)
  have ne_b22_r75 : b22 ≠ r75 := Nat.ne_of_lt (Nat.lt_of_lt_of_le (f66).lt Sq75)
  have ne_r26_r75 : r26 ≠ r75 := Nat.ne_of_lt (Nat.lt_of_lt_of_le (f68).lt Sq75)
  have ne_x26_r75 : x26 ≠ r75 := Nat.ne_of_lt (Nat.lt_of_lt_of_le (f70).lt Sq75)
  have ne_r42_r75 : r42 ≠ r75 := Nat.ne_of_lt (Nat.lt_of_lt_of_le (f72).lt Sq75)
  have ne_r64_r75 : r64 ≠ r75 := Nat.ne_of_lt (Nat.lt_of_lt_of_le (Vq64).lt Sq75)
  have q_r75 : n0 ≤ r75 := Nat.le_trans Z73 Sq75
  have sz_r75 : h0.size ≤ r75 := Nat.le_trans K73.1 Sq75
  have ne_b1_x75 : b1 ≠ x75 := Nat.ne_of_lt (Nat.lt_of_lt_of_le (f65).lt Sp75)
  have ne_b22_x75 : b22 ≠ x75 := Nat.ne_of_lt (Nat.lt_of_lt_of_le (f66).lt Sp75)
  have ne_r26_x75 : r26 ≠ x75 := Nat.ne_of_lt (Nat.lt_of_lt_of_le (f68).lt Sp75)
  have ne_x26_x75 : x26 ≠ x75 := Nat.ne_of_lt (Nat.lt_of_lt_of_le (f70).lt Sp75)
  have ne_r42_x75 : r42 ≠ x75 := Nat.ne_of_lt (Nat.lt_of_lt_of_le (f72).lt Sp75)
  have ne_r64_x75 : r64 ≠ x75 := Nat.ne_of_lt (Nat.lt_of_lt_of_le (Vq64).lt Sp75)
  have q_x75 : n0 ≤ x75 := Nat.le_trans Z73 Sp75
  have sz_x75 : h0.size ≤ x75 := Nat.le_trans K73.1 Sp75
  have f76 := f65.keep Kq75
  have f77 := f66.keep Kq75 nin0
  have f78 := f67.keep Kq75
  have f79 := f68.keep Kq75
  have f80 := f69.keep Kq75 nin0
  have f81 := f70.keep Kq75 nin0
  have f82 := f71.keep Kq75
  have f83 := f72.keep Kq75
  have f84 := Vq64.keep Kq75 nin0
  have f85 := Eq64.keep Kq75
  have OLD86 := OLD73.keep Kq75 all0
  have K86 := K73.trans Kq75 all0
  have Z86 := Nat.le_trans Z73 Kq75.1
  refine ogo (fun t k => st75 t k) ?_
  show OwnEnds _ _ _ _ _ _ _ (T75.setTop (mkF m 183 #[.val (.long q0), .second, .val (.long q1), .second, .val (.long q2), .second, .val (.long q3), .second, .val (.long q4), .second, .val (.long q5), .second, .val (.ref b1), .val (.ref b22), .val (.int ((((q0 ^^^ q5) &&& (2147483647 : Int64)).toInt32) % (48 : Int32))), .val (.ref r26), .val (.ref r42), .val (.int (1 : Int32)), .val (.ref r64), .unset] [(.ref r75)]))
  refine ogo (fun t k => XS.astore X75.here hx rfl (hb hby at_183) rfl rfl (l' := #[.val (.long q0), .second, .val (.long q1), .second, .val (.long q2), .second, .val (.long q3), .second, .val (.long q4), .second, .val (.long q5), .second, .val (.ref b1), .val (.ref b22), .val (.int ((((q0 ^^^ q5) &&& (2147483647 : Int64)).toInt32) % (48 : Int32))), .val (.ref r26), .val (.ref r42), .val (.int (1 : Int32)), .val (.ref r64), .val (.ref r75)]) rfl k) ?_
  show OwnEnds _ _ _ _ _ _ _ (T75.setTop (mkF m 185 #[.val (.long q0), .second, .val (.long q1), .second, .val (.long q2), .second, .val (.long q3), .second, .val (.long q4), .second, .val (.long q5), .second, .val (.ref b1), .val (.ref b22), .val (.int ((((q0 ^^^ q5) &&& (2147483647 : Int64)).toInt32) % (48 : Int32))), .val (.ref r26), .val (.ref r42), .val (.int (1 : Int32)), .val (.ref r64), .val (.ref r75)] []))
  refine ogo (fun t k => XS.iload X75.here hx rfl (hb hby at_185) rfl k) ?_
  show OwnEnds _ _ _ _ _ _ _ (T75.setTop (mkF m 187 #[.val (.long q0), .second, .val (.long q1), .second, .val (.long q2), .second, .val (.long q3), .second, .val (.long q4), .second, .val (.long q5), .second, .val (.ref b1), .val (.ref b22), .val (.int ((((q0 ^^^ q5) &&& (2147483647 : Int64)).toInt32) % (48 : Int32))), .val (.ref r26), .val (.ref r42), .val (.int (1 : Int32)), .val (.ref r64), .val (.ref r75)] [(.int (1 : Int32))]))
  refine ogo (fun t k => XS.ifNo X75.here hx rfl (hb hby at_187) rfl ((if0 _ _).trans (feq (by decide : ¬ ((1 : Int32) = (0 : Int32)))).1) k) ?_
  show OwnEnds _ _ _ _ _ _ _ (T75.setTop (mkF m 190 #[.val (.long q0), .second, .val (.long q1), .second, .val (.long q2), .second, .val (.long q3), .second, .val (.long q4), .second, .val (.long q5), .second, .val (.ref b1), .val (.ref b22), .val (.int ((((q0 ^^^ q5) &&& (2147483647 : Int64)).toInt32) % (48 : Int32))), .val (.ref r26), .val (.ref r42), .val (.int (1 : Int32)), .val (.ref r64), .val (.ref r75)] []))
  refine ogo (fun t k => XS.aload X75.here hx rfl (hb hby at_190) rfl rfl k) ?_
  show OwnEnds _ _ _ _ _ _ _ (T75.setTop (mkF m 192 #[.val (.long q0), .second, .val (.long q1), .second, .val (.long q2), .second, .val (.long q3), .second, .val (.long q4), .second, .val (.long q5), .second, .val (.ref b1), .val (.ref b22), .val (.int ((((q0 ^^^ q5) &&& (2147483647 : Int64)).toInt32) % (48 : Int32))), .val (.ref r26), .val (.ref r42), .val (.int (1 : Int32)), .val (.ref r64), .val (.ref r75)] [(.ref r75)]))
  obtain ⟨cq87, kq87, q87a, q87b, q87c⟩ := isOf hZ rfl Eq75
  obtain ⟨v87, _, ⟨T87, L87, k87, n87⟩, -, X87, ⟨Lc87, hQ87, l87, y87, z87⟩, st87⟩ := X75.virtualBack hx (y := (⟨"com/example/opaque_token/opaquetoken/token/PinHash", "stored", "()[B"⟩ : MethodName)) (z := (⟨"com/example/opaque_token/opaquetoken/token/PinHash", "stored", "()[B"⟩ : MethodName)) hown (mvT hZ (hw _ (List.mem_of_getElem? (i := 29) rfl))) (mvT hZ (hw _ (List.mem_of_getElem? (i := 30) rfl))) (notFace_of_selects (args := #[]) (mvT hZ (hw _ (List.mem_of_getElem? (i := 32) rfl)))) (mvT hZ (hw _ (List.mem_of_getElem? (i := 32) rfl))) (mvT hZ (hw _ (List.mem_of_getElem? (i := 31) rfl))) (by decide) (backOf (W := 0) (rm8 l Z a0 hw [] r75 x75 [] T75.heap n0 Z86 OLD86 Fq75 Vq75 Ec75) hZ (hw _ (List.mem_of_getElem? (i := 33) rfl)) (hw _ (List.mem_of_getElem? (i := 8) rfl)) (by decide) (by decide)) q87a q87c (g := (mkF m 192 #[.val (.long q0), .second, .val (.long q1), .second, .val (.long q2), .second, .val (.long q3), .second, .val (.long q4), .second, .val (.long q5), .second, .val (.ref b1), .val (.ref b22), .val (.int ((((q0 ^^^ q5) &&& (2147483647 : Int64)).toInt32) % (48 : Int32))), .val (.ref r26), .val (.ref r42), .val (.int (1 : Int32)), .val (.ref r64), .val (.ref r75)] [(.ref r75)])) rfl (by rw [hml]; rfl) (Steps.refl _) (argsL := []) (rest := []) (lenOf pd____B rfl) rfl (by show 2 * 0 + _ ≤ _; exact Nat.le_of_eq rfl) (hb hby at_192) (fun _ _ => ⟨rfl, rfl, (by decide : 8 + 1 ≤ _), (by decide : 194 + 0 ≤ _)⟩)
  dsimp only [Pt.U, Pt.locs, Pt.cells, Pt.slots] at X87 l87 y87 z87 st87 hQ87
  subst l87 y87 z87
  obtain ⟨r87, rfl, Sq87, N87q, Kq87, Vq87, Eq87⟩ := hQ87
  have N87 := Fr.app N75 N87q
  have ne_b1_r87 : b1 ≠ r87 := Nat.ne_of_lt (Nat.lt_of_lt_of_le (f76).lt Sq87)
  have ne_b22_r87 : b22 ≠ r87 := Nat.ne_of_lt (Nat.lt_of_lt_of_le (f77).lt Sq87)
  have ne_r26_r87 : r26 ≠ r87 := Nat.ne_of_lt (Nat.lt_of_lt_of_le (f79).lt Sq87)
  have ne_x26_r87 : x26 ≠ r87 := Nat.ne_of_lt (Nat.lt_of_lt_of_le (f81).lt Sq87)
  have ne_r42_r87 : r42 ≠ r87 := Nat.ne_of_lt (Nat.lt_of_lt_of_le (f83).lt Sq87)
  have ne_r64_r87 : r64 ≠ r87 := Nat.ne_of_lt (Nat.lt_of_lt_of_le (f84).lt Sq87)
  have ne_r75_r87 : r75 ≠ r87 := Nat.ne_of_lt (Nat.lt_of_lt_of_le (Eq75).lt Sq87)
  have ne_x75_r87 : x75 ≠ r87 := Nat.ne_of_lt (Nat.lt_of_lt_of_le (Vq75).lt Sq87)
  have q_r87 : n0 ≤ r87 := Nat.le_trans Z86 Sq87
  have sz_r87 : h0.size ≤ r87 := Nat.le_trans K86.1 Sq87
  have f88 := f76.keep Kq87
  have f89 := f77.keep Kq87 nin0
  have f90 := f78.keep Kq87
  have f91 := f79.keep Kq87
  have f92 := f80.keep Kq87 nin0
  have f93 := f81.keep Kq87 nin0
  have f94 := f82.keep Kq87
  have f95 := f83.keep Kq87
  have f96 := f84.keep Kq87 nin0
  have f97 := f85.keep Kq87
  have f98 := Eq75.keep Kq87
  have f99 := Fq75.keep Kq87 nin0
  have f100 := Vq75.keep Kq87 nin0
  have f101 := Ec75.keep Kq87
  have OLD102 := OLD86.keep Kq87 all0
  have K102 := K86.trans Kq87 all0
  have Z102 := Nat.le_trans Z86 Kq87.1
  refine ogo (fun t k => st87.trans k) ?_
  show OwnEnds _ _ _ _ _ _ _ (T87.setTop (mkF m 195 #[.val (.long q0), .second, .val (.long q1), .second, .val (.long q2), .second, .val (.long q3), .second, .val (.long q4), .second, .val (.long q5), .second, .val (.ref b1), .val (.ref b22), .val (.int ((((q0 ^^^ q5) &&& (2147483647 : Int64)).toInt32) % (48 : Int32))), .val (.ref r26), .val (.ref r42), .val (.int (1 : Int32)), .val (.ref r64), .val (.ref r75)] [(.ref r87)]))
  obtain ⟨ak103, cl103, Ar103, Aq103, As103, An103, Ah103, Ag103⟩ := id Vq87
  refine ogo (fun t k => X87.arraylength hx Ar103.1 (State.isArrayOf_alike hZ.alike Ar103.2.1) (g := (mkF m 195 #[.val (.long q0), .second, .val (.long q1), .second, .val (.long q2), .second, .val (.long q3), .second, .val (.long q4), .second, .val (.long q5), .second, .val (.ref b1), .val (.ref b22), .val (.int ((((q0 ^^^ q5) &&& (2147483647 : Int64)).toInt32) % (48 : Int32))), .val (.ref r26), .val (.ref r42), .val (.int (1 : Int32)), .val (.ref r64), .val (.ref r75)] [(.ref r87)])) rfl rfl (hb hby at_195) t k) ?_
  rw [len_of As103 An103]
  show OwnEnds _ _ _ _ _ _ _ (T87.setTop (mkF m 196 #[.val (.long q0), .second, .val (.long q1), .second, .val (.long q2), .second, .val (.long q3), .second, .val (.long q4), .second, .val (.long q5), .second, .val (.ref b1), .val (.ref b22), .val (.int ((((q0 ^^^ q5) &&& (2147483647 : Int64)).toInt32) % (48 : Int32))), .val (.ref r26), .val (.ref r42), .val (.int (1 : Int32)), .val (.ref r64), .val (.ref r75)] [(.int (0 : Int32))]))
  refine ogo (fun t k => XS.ifNo X87.here hx rfl (hb hby at_196) rfl ((if0 _ _).trans (teq (by decide : (0 : Int32) = (0 : Int32))).2) k) ?_
  show OwnEnds _ _ _ _ _ _ _ (T87.setTop (mkF m 199 #[.val (.long q0), .second, .val (.long q1), .second, .val (.long q2), .second, .val (.long q3), .second, .val (.long q4), .second, .val (.long q5), .second, .val (.ref b1), .val (.ref b22), .val (.int ((((q0 ^^^ q5) &&& (2147483647 : Int64)).toInt32) % (48 : Int32))), .val (.ref r26), .val (.ref r42), .val (.int (1 : Int32)), .val (.ref r64), .val (.ref r75)] []))
  refine ogo (fun t k => XS.aload X87.here hx rfl (hb hby at_199) rfl rfl k) ?_
  show OwnEnds _ _ _ _ _ _ _ (T87.setTop (mkF m 201 #[.val (.long q0), .second, .val (.long q1), .second, .val (.long q2), .second, .val (.long q3), .second, .val (.long q4), .second, .val (.long q5), .second, .val (.ref b1), .val (.ref b22), .val (.int ((((q0 ^^^ q5) &&& (2147483647 : Int64)).toInt32) % (48 : Int32))), .val (.ref r26), .val (.ref r42), .val (.int (1 : Int32)), .val (.ref r64), .val (.ref r75)] [(.ref r75)]))
  obtain ⟨T104, X104, e104, st104⟩ := getS2 X87 hx hZ hown (host := "") (Or.inl (hw _ (List.mem_of_getElem? (i := 40) rfl))) Via.refl rfl (S_N.ext OLD102.2) (g := (mkF m 201 #[.val (.long q0), .second, .val (.long q1), .second, .val (.long q2), .second, .val (.long q3), .second, .val (.long q4), .second, .val (.long q5), .second, .val (.ref b1), .val (.ref b22), .val (.int ((((q0 ^^^ q5) &&& (2147483647 : Int64)).toInt32) % (48 : Int32))), .val (.ref r26), .val (.ref r42), .val (.int (1 : Int32)), .val (.ref r64), .val (.ref r75)] [(.ref r75)])) rfl (hb hby at_201)
  refine ogo st104 ?_
  show OwnEnds _ _ _ _ _ _ _ (T104.setTop (mkF m 204 #[.val (.long q0), .second, .val (.long q1), .second, .val (.long q2), .second, .val (.long q3), .second, .val (.long q4), .second, .val (.long q5), .second, .val (.ref b1), .val (.ref b22), .val (.int ((((q0 ^^^ q5) &&& (2147483647 : Int64)).toInt32) % (48 : Int32))), .val (.ref r26), .val (.ref r42), .val (.int (1 : Int32)), .val (.ref r64), .val (.ref r75)] [(.ref w_NONE), (.ref r75)]))
  obtain ⟨cq105, kq105, q105a, q105b, q105c⟩ := isOf hZ e104 f98
  obtain ⟨v105, _, ⟨T105, L105, k105, n105⟩, -, X105, ⟨Lc105, hQ105, l105, y105, z105⟩, st105⟩ := X104.virtualBack hx (y := (⟨"com/example/opaque_token/opaquetoken/token/PinHash", "equals", "(Ljava/lang/Object;)Z"⟩ : MethodName)) (z := (⟨"com/example/opaque_token/opaquetoken/token/PinHash", "equals", "(Ljava/lang/Object;)Z"⟩ : MethodName)) hown (mvT hZ (hw _ (List.mem_of_getElem? (i := 42) rfl))) (mvT hZ (hw _ (List.mem_of_getElem? (i := 43) rfl))) (notFace_of_selects (args := #[]) (mvT hZ (hw _ (List.mem_of_getElem? (i := 45) rfl)))) (mvT hZ (hw _ (List.mem_of_getElem? (i := 45) rfl))) (mvT hZ (hw _ (List.mem_of_getElem? (i := 44) rfl))) (by decide) (backOf (W := 0) (rm13 l Z a0 hw [] r75 w_NONE x75 w_S [] [] T87.heap n0 Z102 (E_N.ext OLD102.2) f99 (F_N.ext OLD102.2) f100 (Av.ext V_S OLD102.2) (Ne.symm (Old.ne OLD102 (Av.lt V_S) q_x75))) hZ (hw _ (List.mem_of_getElem? (i := 46) rfl)) (hw _ (List.mem_of_getElem? (i := 8) rfl)) (by decide) (by decide)) q105a q105c (g := (mkF m 204 #[.val (.long q0), .second, .val (.long q1), .second, .val (.long q2), .second, .val (.long q3), .second, .val (.long q4), .second, .val (.long q5), .second, .val (.ref b1), .val (.ref b22), .val (.int ((((q0 ^^^ q5) &&& (2147483647 : Int64)).toInt32) % (48 : Int32))), .val (.ref r26), .val (.ref r42), .val (.int (1 : Int32)), .val (.ref r64), .val (.ref r75)] [(.ref w_NONE), (.ref r75)])) rfl (by rw [hml]; rfl) (Steps.refl _) (argsL := [(.ref w_NONE)]) (rest := []) (lenOf pd__Ljava_lang_Object__Z rfl) rfl (by show 2 * 0 + _ ≤ _; exact Nat.le_of_eq rfl) (hb hby at_204) (fun _ _ => ⟨rfl, e104, (by decide : 9 + 0 ≤ _), (by decide : 194 + 0 ≤ _)⟩)
  dsimp only [Pt.U, Pt.locs, Pt.cells, Pt.slots] at X105 l105 y105 z105 st105 hQ105
  subst l105 y105 z105
  obtain ⟨rfl, N105q, e105⟩ := hQ105
  have N105 := Fr.app N87 N105q
  refine ogo (fun t k => st105.trans k) ?_
  show OwnEnds _ _ _ _ _ _ _ (T105.setTop (mkF m 207 #[.val (.long q0), .second, .val (.long q1), .second, .val (.long q2), .second, .val (.long q3), .second, .val (.long q4), .second, .val (.long q5), .second, .val (.ref b1), .val (.ref b22), .val (.int ((((q0 ^^^ q5) &&& (2147483647 : Int64)).toInt32) % (48 : Int32))), .val (.ref r26), .val (.ref r42), .val (.int (1 : Int32)), .val (.ref r64), .val (.ref r75)] [(.int (1 : Int32))]))
  refine ogo (fun t k => XS.ifNo X105.here hx rfl (hb hby at_207) rfl ((if0 _ _).trans (feq (by decide : ¬ ((1 : Int32) = (0 : Int32)))).1) k) ?_
  show OwnEnds _ _ _ _ _ _ _ (T105.setTop (mkF m 210 #[.val (.long q0), .second, .val (.long q1), .second, .val (.long q2), .second, .val (.long q3), .second, .val (.long q4), .second, .val (.long q5), .second, .val (.ref b1), .val (.ref b22), .val (.int ((((q0 ^^^ q5) &&& (2147483647 : Int64)).toInt32) % (48 : Int32))), .val (.ref r26), .val (.ref r42), .val (.int (1 : Int32)), .val (.ref r64), .val (.ref r75)] []))
  refine ogo (fun t k => XS.aload X105.here hx rfl (hb hby at_210) rfl rfl k) ?_
  show OwnEnds _ _ _ _ _ _ _ (T105.setTop (mkF m 212 #[.val (.long q0), .second, .val (.long q1), .second, .val (.long q2), .second, .val (.long q3), .second, .val (.long q4), .second, .val (.long q5), .second, .val (.ref b1), .val (.ref b22), .val (.int ((((q0 ^^^ q5) &&& (2147483647 : Int64)).toInt32) % (48 : Int32))), .val (.ref r26), .val (.ref r42), .val (.int (1 : Int32)), .val (.ref r64), .val (.ref r75)] [(.ref r26)]))
  obtain ⟨T106, X106, e106, st106⟩ := getS2 X105 hx hZ hown (host := "") (Or.inl (hw _ (List.mem_of_getElem? (i := 40) rfl))) Via.refl e105 (S_N.ext OLD102.2) (g := (mkF m 212 #[.val (.long q0), .second, .val (.long q1), .second, .val (.long q2), .second, .val (.long q3), .second, .val (.long q4), .second, .val (.long q5), .second, .val (.ref b1), .val (.ref b22), .val (.int ((((q0 ^^^ q5) &&& (2147483647 : Int64)).toInt32) % (48 : Int32))), .val (.ref r26), .val (.ref r42), .val (.int (1 : Int32)), .val (.ref r64), .val (.ref r75)] [(.ref r26)])) rfl (hb hby at_212)
  refine ogo st106 ?_
  show OwnEnds _ _ _ _ _ _ _ (T106.setTop (mkF m 215 #[.val (.long q0), .second, .val (.long q1), .second, .val (.long q2), .second, .val (.long q3), .second, .val (.long q4), .second, .val (.long q5), .second, .val (.ref b1), .val (.ref b22), .val (.int ((((q0 ^^^ q5) &&& (2147483647 : Int64)).toInt32) % (48 : Int32))), .val (.ref r26), .val (.ref r42), .val (.int (1 : Int32)), .val (.ref r64), .val (.ref r75)] [(.ref w_NONE), (.ref r26)]))
  obtain ⟨cq107, kq107, q107a, q107b, q107c⟩ := isOf hZ e106 f91
  obtain ⟨v107, _, ⟨T107, L107, k107, n107⟩, -, X107, ⟨Lc107, hQ107, l107, y107, z107⟩, st107⟩ := X106.virtualBack hx (y := (⟨"com/example/opaque_token/opaquetoken/token/PinHash", "equals", "(Ljava/lang/Object;)Z"⟩ : MethodName)) (z := (⟨"com/example/opaque_token/opaquetoken/token/PinHash", "equals", "(Ljava/lang/Object;)Z"⟩ : MethodName)) hown (mvT hZ (hw _ (List.mem_of_getElem? (i := 42) rfl))) (mvT hZ (hw _ (List.mem_of_getElem? (i := 43) rfl))) (notFace_of_selects (args := #[]) (mvT hZ (hw _ (List.mem_of_getElem? (i := 45) rfl)))) (mvT hZ (hw _ (List.mem_of_getElem? (i := 45) rfl))) (mvT hZ (hw _ (List.mem_of_getElem? (i := 44) rfl))) (by decide) (backOf (W := 0) (rm12 l Z a0 hw [] r26 w_NONE x26 w_S (own_all q0 q1 q2 q3 q4 q5) [] T87.heap n0 Z102 (E_N.ext OLD102.2) f92 (F_N.ext OLD102.2) f93 (Av.ext V_S OLD102.2) (Ne.symm (Old.ne OLD102 (Av.lt V_S) q_x26))) hZ (hw _ (List.mem_of_getElem? (i := 46) rfl)) (hw _ (List.mem_of_getElem? (i := 8) rfl)) (by decide) (by decide)) q107a q107c (g := (mkF m 215 #[.val (.long q0), .second, .val (.long q1), .second, .val (.long q2), .second, .val (.long q3), .second, .val (.long q4), .second, .val (.long q5), .second, .val (.ref b1), .val (.ref b22), .val (.int ((((q0 ^^^ q5) &&& (2147483647 : Int64)).toInt32) % (48 : Int32))), .val (.ref r26), .val (.ref r42), .val (.int (1 : Int32)), .val (.ref r64), .val (.ref r75)] [(.ref w_NONE), (.ref r26)])) rfl (by rw [hml]; rfl) (Steps.refl _) (argsL := [(.ref w_NONE)]) (rest := []) (lenOf pd__Ljava_lang_Object__Z rfl) rfl (by show 2 * 0 + _ ≤ _; exact Nat.le_of_eq rfl) (hb hby at_215) (fun _ _ => ⟨rfl, e106, (by decide : 9 + 0 ≤ _), (by decide : 194 + 0 ≤ _)⟩)
  dsimp only [Pt.U, Pt.locs, Pt.cells, Pt.slots] at X107 l107 y107 z107 st107 hQ107
  subst l107 y107 z107
  obtain ⟨rfl, N107q, e107⟩ := hQ107
  have N107 := Fr.app N105 N107q
  refine ogo (fun t k => st107.trans k) ?_
  show OwnEnds _ _ _ _ _ _ _ (T107.setTop (mkF m 218 #[.val (.long q0), .second, .val (.long q1), .second, .val (.long q2), .second, .val (.long q3), .second, .val (.long q4), .second, .val (.long q5), .second, .val (.ref b1), .val (.ref b22), .val (.int ((((q0 ^^^ q5) &&& (2147483647 : Int64)).toInt32) % (48 : Int32))), .val (.ref r26), .val (.ref r42), .val (.int (1 : Int32)), .val (.ref r64), .val (.ref r75)] [(.int (0 : Int32))]))
  refine ogo (fun t k => XS.ifNo X107.here hx rfl (hb hby at_218) rfl ((if0 _ _).trans (teq (by decide : (0 : Int32) = (0 : Int32))).2) k) ?_
  show OwnEnds _ _ _ _ _ _ _ (T107.setTop (mkF m 221 #[.val (.long q0), .second, .val (.long q1), .second, .val (.long q2), .second, .val (.long q3), .second, .val (.long q4), .second, .val (.long q5), .second, .val (.ref b1), .val (.ref b22), .val (.int ((((q0 ^^^ q5) &&& (2147483647 : Int64)).toInt32) % (48 : Int32))), .val (.ref r26), .val (.ref r42), .val (.int (1 : Int32)), .val (.ref r64), .val (.ref r75)] []))
  refine ogo (fun t k => XS.iconst X107.here hx rfl (hb hby at_221) k) ?_
  show OwnEnds _ _ _ _ _ _ _ (T107.setTop (mkF m 222 #[.val (.long q0), .second, .val (.long q1), .second, .val (.long q2), .second, .val (.long q3), .second, .val (.long q4), .second, .val (.long q5), .second, .val (.ref b1), .val (.ref b22), .val (.int ((((q0 ^^^ q5) &&& (2147483647 : Int64)).toInt32) % (48 : Int32))), .val (.ref r26), .val (.ref r42), .val (.int (1 : Int32)), .val (.ref r64), .val (.ref r75)] [(.int (1 : Int32))]))
  refine ogo (fun t k => XS.goto X107.here hx rfl (pc0 := 222) (pc' := 226) rfl (hb hby at_222) (by decide) (by decide) k) ?_
  show OwnEnds _ _ _ _ _ _ _ (T107.setTop (mkF m 226 #[.val (.long q0), .second, .val (.long q1), .second, .val (.long q2), .second, .val (.long q3), .second, .val (.long q4), .second, .val (.long q5), .second, .val (.ref b1), .val (.ref b22), .val (.int ((((q0 ^^^ q5) &&& (2147483647 : Int64)).toInt32) % (48 : Int32))), .val (.ref r26), .val (.ref r42), .val (.int (1 : Int32)), .val (.ref r64), .val (.ref r75)] [(.int (1 : Int32))]))
  refine ogo (fun t k => XS.istore X107.here hx rfl (hb hby at_226) rfl (l' := #[.val (.long q0), .second, .val (.long q1), .second, .val (.long q2), .second, .val (.long q3), .second, .val (.long q4), .second, .val (.long q5), .second, .val (.ref b1), .val (.ref b22), .val (.int ((((q0 ^^^ q5) &&& (2147483647 : Int64)).toInt32) % (48 : Int32))), .val (.ref r26), .val (.ref r42), .val (.int (1 : Int32)), .val (.ref r64), .val (.ref r75)]) rfl k) ?_
  show OwnEnds _ _ _ _ _ _ _ (T107.setTop (mkF m 228 #[.val (.long q0), .second, .val (.long q1), .second, .val (.long q2), .second, .val (.long q3), .second, .val (.long q4), .second, .val (.long q5), .second, .val (.ref b1), .val (.ref b22), .val (.int ((((q0 ^^^ q5) &&& (2147483647 : Int64)).toInt32) % (48 : Int32))), .val (.ref r26), .val (.ref r42), .val (.int (1 : Int32)), .val (.ref r64), .val (.ref r75)] []))
  refine ogo (fun t k => XS.iload X107.here hx rfl (hb hby at_228) rfl k) ?_
  show OwnEnds _ _ _ _ _ _ _ (T107.setTop (mkF m 230 #[.val (.long q0), .second, .val (.long q1), .second, .val (.long q2), .second, .val (.long q3), .second, .val (.long q4), .second, .val (.long q5), .second, .val (.ref b1), .val (.ref b22), .val (.int ((((q0 ^^^ q5) &&& (2147483647 : Int64)).toInt32) % (48 : Int32))), .val (.ref r26), .val (.ref r42), .val (.int (1 : Int32)), .val (.ref r64), .val (.ref r75)] [(.int (1 : Int32))]))
  refine endZ X107 hx hlk hret rfl (hb hby at_230) (by decide) (by decide) ?_
  show Q0 Z q0 q1 q2 q3 q4 q5 w_NONE w_S h0 n0 _ T107.heap _
  rw [e107]
  exact ⟨rfl, N107⟩
set_option maxRecDepth 65536 in
set_option maxHeartbeats 40000000 in
theorem comes_1 {Post : Tables → Env → Array Value → State → Outcome → State → Prop} (hpost : ∀ tb e args s v u, (limb_1_1.after args s (.returned v) u = true ∧ limb_1_2.after args s (.returned v) u = true ∧ True) → FrameEnd s (.returned v) u (Jvm.fieldLocs frame_1_writes args s ++ Jvm.arrayLocs frame_1_arrays args s ++ Jvm.staticLocs frame_1_statics s) 32 512 → Post tb e args s (.returned v) u) :
    ArmFor flags0 classFile x code maxLocals ret World_1 tables_1 room_1 Calls_1 rest_1 Pre_1 Post := by
  intro l hfl _ _ p e ha hc hk s m args below hf hA hF happ hP
  obtain ⟨hcalls, hrest, hpre⟩ := hP
  obtain ⟨-, -, -, hnamed, -, -, -, hat⟩ := (Spec.applies_iff hf).mp happ
  obtain ⟨hg, hn⟩ := and_e (Cond.before_iff.mp (show (Jvm.Cond.and given_1 narrow_1).before args s = true from hpre))
  obtain ⟨hcount, hg0⟩ := and_e hg
  obtain ⟨hk0, hg1⟩ := and_e hg0
  obtain ⟨hk1, hg2⟩ := and_e hg1
  obtain ⟨hk2, hg3⟩ := and_e hg2
  obtain ⟨hk3, hg4⟩ := and_e hg3
  obtain ⟨hk4, hg5⟩ := and_e hg4
  have hk5 := hg5
  obtain ⟨w0, w1, w2, w3, w4, w5, rfl⟩ : ∃ w0 w1 w2 w3 w4 w5 : Value, args = #[w0, w1, w2, w3, w4, w5] := by
    have hs : args.size = 6 := by simpa [Cond.value, given_1] using hcount
    obtain ⟨L⟩ := args
    match L, hs with
    | [w0, w1, w2, w3, w4, w5], _ => exact ⟨w0, w1, w2, w3, w4, w5, rfl⟩
  have hw := fun d (hd : d ∈ tables_1) => atoms_spec (ws := Jvm.Cond.code x code maxLocals ret :: tables_1) hat d (List.mem_cons_of_mem _ hd)
  have hfit : Fit s := fun {y c} hc i hi => by
    obtain ⟨ha, rfl⟩ := Array.getElem?_eq_some_iff.mp hc
    have q := List.all_eq_true.mp ((Array.all_eq_true_iff_forall_mem.mp hF) _ (Array.getElem_mem ha)) i (List.mem_range.mpr hi)
    simpa [Array.getElem?_eq_getElem hi] using q
  obtain ⟨i0, ei0⟩ := isL_v hk0
  obtain rfl : w0 = (.long i0) := Option.some.inj ei0
  obtain ⟨i1, ei1⟩ := isL_v hk1
  obtain rfl : w1 = (.long i1) := Option.some.inj ei1
  obtain ⟨i2, ei2⟩ := isL_v hk2
  obtain rfl : w2 = (.long i2) := Option.some.inj ei2
  obtain ⟨i3, ei3⟩ := isL_v hk3
  obtain rfl : w3 = (.long i3) := Option.some.inj ei3
  obtain ⟨i4, ei4⟩ := isL_v hk4
  obtain rfl : w4 = (.long i4) := Option.some.inj ei4
  obtain ⟨i5, ei5⟩ := isL_v hk5
  obtain rfl : w5 = (.long i5) := Option.some.inj ei5
  obtain ⟨u1a, u1b⟩ := and_e hn
  obtain ⟨u2a, u2b⟩ := and_e u1b
  obtain ⟨w_NONE, ev_N⟩ := exa_v u1a
  have S_N : Sta s s.heap "com/example/opaque_token/opaquetoken/token/PinHash" "NONE" "Lcom/example/opaque_token/opaquetoken/token/PinHash;" (.ref w_NONE) := Sta.start ev_N (Or.inr ⟨(hw _ (List.mem_of_getElem? (i := 8) rfl)), (hw _ (List.mem_of_getElem? (i := 41) rfl))⟩)
  have E_N : Exa s s.heap w_NONE "com/example/opaque_token/opaquetoken/token/PinHash" := Exa.start ev_N u1a
  obtain ⟨w_S, ev_S⟩ := arr_v u2a
  have F_N : Fld s s.heap w_NONE "com/example/opaque_token/opaquetoken/token/PinHash" "stored" "[B" (.ref w_S) := Fld.start ((fld_at ev_N).symm.trans ev_S)
  obtain ⟨cl_S, Ar_S⟩ := Arr.start ev_S u2a
  obtain ⟨hl_S, hk_S⟩ := own_len u2b ev_S (Arr.fin (Vm.Alike.refl _) Ar_S)
  have V_S : Av s s.heap w_S .byte (0 : Int32) [] (.int (0 : Int32)) := ⟨_, Arv.start hfit Ar_S hl_S hk_S (by decide) rfl trivial⟩
  obtain ⟨n, o, h1, h2, h3, _, L, rfl, ⟨rfl, N⟩, hq⟩ := rm0 l s _ hw tables_1 i0 i1 i2 i3 i4 i5 w_NONE w_S s.heap s.heap.size (Nat.le_refl _) (Old.start s) S_N E_N F_N V_S p e ha hc hk s m _ below hf ((Spec.applies_iff_loose hf).mp happ).1 ⟨rfl, State.Warmed39.refl s, rfl⟩ trivial
  refine ⟨n, _, h1, h2, h3, hpost _ _ _ _ _ _ ⟨Cond.after_iff.mpr rfl, Cond.after_iff.mpr (eq_i res_at (Term.int_eval (1)) rfl), trivial⟩ ⟨hq.1, hq.2.1, (hq.2.2.sift fun y hy => Or.inr (N y hy)).mono (by decide) (by decide)⟩⟩
theorem main_1_1 : Claimed_1_1 := comes_1 fun _ _ _ _ _ _ h hF => ⟨h.1, hF⟩
theorem main_1_2 : Claimed_1_2 := comes_1 fun _ _ _ _ _ _ h hF => ⟨h.2.1, hF⟩
end Jvm.Pilot.@@N@@
namespace Jvm.Pilot.@@N@@
open Jvm Jvm.ClassFile Sem Op Lib Jvm.Free Jvm.Stand Jvm.Pilot.@@N@@.Jvm.D
/-! MADE BY PROGRAM (witnessworld.py) out of the Statement's table words and the real class files: 11 classes; the members and pool entries that the words name. The judged class is class 1, her method 4. -/
namespace start1
open Jvm.ClassFile
def u (s : String) : CpInfo := .utf8 (stringToUtf16 s)
/-- a pool by its gaps: so many unusable entries, then the entry; so many at the end -/
def gap : Nat → List CpInfo → List CpInfo
  | 0, r => r
  | n + 1, r => .unusable :: gap n r
def poolList (es : List (Nat × CpInfo)) (last : Nat) : List CpInfo := es.foldr (fun e r => gap e.1 (e.2 :: r)) (gap last [])
def pool (es : List (Nat × CpInfo)) (last : Nat) : Array CpInfo := ⟨poolList es last⟩
def fileOf (pool : Array CpInfo) (this : Nat) (attrs : Array Attribute := #[]) (ms : Array MethodInfo := #[]) (fl : Nat := 33) (sup : Nat := 0) (ifs : Array Nat := #[]) (fds : Array FieldInfo := #[]) : ClassFile where
  minorVersion := 0
  majorVersion := 65
  constantPool := pool
  accessFlags := fl
  thisClass := this
  superClass := sup
  interfaces := ifs
  fields := fds
  methods := ms
  attributes := attrs
def plain (name : String) (sup : Option ClassId) : Class where
  name := name
  kind := .ordinary
  loader := none
  accessFlags := 33
  super := sup
  interfaces := #[]
  cf := none
  fields := #[]
  methods := #[]
  instanceTypes := #[]
  staticTypes := #[]
  resolved := #[]
  callSites := []
  init := .initialized
  statics := none
  mirror := none

def pool0 : Array CpInfo := pool [(5, u "<init>"), (0, u "()V"), (1, .class_ 10), (1, u "java/lang/Object"), (85, u "clone"), (0, u "()Ljava/lang/Object;")] 26

def k0c0 : Code := { maxStack := 0, maxLocals := 1, code := object_method_1_code, exceptionTable := #[], attributes := #[] }
def k0m0 : Method := { name := "<init>", desc := "()V", sig := { parameters := [], returnType := none }, accessFlags := 1, code := some k0c0 }
def k0m1 : Method := { name := "clone", desc := "()Ljava/lang/Object;", sig := { parameters := [], returnType := some (.object "java/lang/Object") }, accessFlags := 260, code := none }
/-- java/lang/Object -/
def k0 : Class := { plain "java/lang/Object" none with
  accessFlags := 33
  interfaces := #[]
  cf := some (fileOf pool0 8 #[] #[{ accessFlags := 1, nameIndex := 5, descriptorIndex := 6, attributes := #[] }, { accessFlags := 260, nameIndex := 96, descriptorIndex := 97, attributes := #[] }] 33 0 #[] #[])
  fields := #[]
  methods := #[k0m0, k0m1]
  instanceTypes := #[]
  staticTypes := #[]
  resolved := Array.replicate 124 none
  statics := none }

def pool1 : Array CpInfo := pool [(2, .class_ 4), (1, u "java/lang/Object"), (0, u "<init>"), (0, u "()V"), (0, .methodref 8 9), (0, .class_ 10), (0, .nameAndType 11 12), (0, u "com/example/opaque_token/opaquetoken/token/PinHashOfStoredPinLaw"), (0, u "get"), (0, u "([BI)J"), (0, .methodref 8 14), (0, .nameAndType 15 16), (0, u "put"), (0, u "([BIJ)V"), (0, .long 2147483647), (1, .methodref 20 21), (0, .class_ 22), (0, .nameAndType 23 24), (0, u "com/example/opaque_token/opaquetoken/token/PinHash"), (0, u "ofStored"), (0, u "([B)Lcom/example/opaque_token/opaquetoken/token/PinHash;"), (0, .methodref 20 26), (0, .nameAndType 27 28), (0, u "stored"), (0, u "()[B"), (0, .methodref 8 30), (0, .nameAndType 31 32), (0, u "same"), (0, u "([BJJJJJJ)Z"), (0, .fieldref 20 34), (0, .nameAndType 35 36), (0, u "NONE"), (0, u "Lcom/example/opaque_token/opaquetoken/token/PinHash;"), (0, .methodref 20 38), (0, .nameAndType 39 40), (0, u "equals"), (0, u "(Ljava/lang/Object;)Z"), (3, u "law"), (0, u "(JJJJJJ)Z")] 4

def k1m0 : Method := { name := "<init>", desc := "()V", sig := { parameters := [], returnType := none }, accessFlags := 2, code := none }
def k1c1 : Code := { maxStack := 5, maxLocals := 4, code := method_2_code, exceptionTable := #[], attributes := #[] }
def k1m1 : Method := { name := "put", desc := "([BIJ)V", sig := { parameters := [(.array .byte), .int, .long], returnType := none }, accessFlags := 10, code := some k1c1 }
def k1c2 : Code := { maxStack := 5, maxLocals := 2, code := method_3_code, exceptionTable := #[], attributes := #[] }
def k1m2 : Method := { name := "get", desc := "([BI)J", sig := { parameters := [(.array .byte), .int], returnType := some .long }, accessFlags := 10, code := some k1c2 }
def k1c3 : Code := { maxStack := 4, maxLocals := 13, code := method_4_code, exceptionTable := #[], attributes := #[] }
def k1m3 : Method := { name := "same", desc := "([BJJJJJJ)Z", sig := { parameters := [(.array .byte), .long, .long, .long, .long, .long, .long], returnType := some .boolean }, accessFlags := 10, code := some k1c3 }
def k1c4 : Code := { maxStack := 13, maxLocals := 20, code := code, exceptionTable := #[], attributes := #[] }
def k1m4 : Method := { name := "law", desc := "(JJJJJJ)Z", sig := { parameters := [.long, .long, .long, .long, .long, .long], returnType := some .boolean }, accessFlags := 9, code := some k1c4 }
/-- com/example/opaque_token/opaquetoken/token/PinHashOfStoredPinLaw -/
def k1 : Class := { plain "com/example/opaque_token/opaquetoken/token/PinHashOfStoredPinLaw" (some 0) with
  accessFlags := 49
  interfaces := #[]
  cf := some (fileOf pool1 8 #[] #[{ accessFlags := 2, nameIndex := 5, descriptorIndex := 6, attributes := #[] }, { accessFlags := 10, nameIndex := 15, descriptorIndex := 16, attributes := #[] }, { accessFlags := 10, nameIndex := 11, descriptorIndex := 12, attributes := #[] }, { accessFlags := 10, nameIndex := 31, descriptorIndex := 32, attributes := #[] }, { accessFlags := 9, nameIndex := 44, descriptorIndex := 45, attributes := #[] }] 49 2 #[] #[])
  fields := #[]
  methods := #[k1m0, k1m1, k1m2, k1m3, k1m4]
  instanceTypes := #[]
  staticTypes := #[]
  resolved := Array.replicate 50 none
  statics := none }

def pool2 : Array CpInfo := pool [(1, .class_ 2), (0, u "com/example/opaque_token/opaquetoken/token/PinHash"), (2, .methodref 6 7), (0, .class_ 8), (0, .nameAndType 9 10), (0, u "java/lang/Object"), (0, u "<init>"), (0, u "()V"), (0, .fieldref 1 12), (0, .nameAndType 13 14), (0, u "stored"), (0, u "[B"), (6, u "NONE"), (0, u "Lcom/example/opaque_token/opaquetoken/token/PinHash;"), (5, u "([B)V"), (1, .class_ 32), (1, u "java/util/Arrays"), (12, .methodref 1 46), (0, .nameAndType 9 28), (9, .methodref 57 58), (0, .class_ 14), (0, .nameAndType 59 60), (0, u "clone"), (0, u "()Ljava/lang/Object;"), (28, u "([B[B)Z"), (0, .methodref 30 91), (0, .nameAndType 92 89), (0, u "equals"), (4, u "SALT_LENGTH"), (0, u "I"), (2, u "LENGTH"), (6, u "ofStored"), (0, u "([B)Lcom/example/opaque_token/opaquetoken/token/PinHash;"), (0, u "()[B"), (5, u "(Ljava/lang/Object;)Z")] 23

def k2c0 : Code := { maxStack := 2, maxLocals := 2, code := prog_58_method_1_code, exceptionTable := #[], attributes := #[] }
def k2m0 : Method := { name := "<init>", desc := "([B)V", sig := { parameters := [(.array .byte)], returnType := none }, accessFlags := 2, code := some k2c0 }
def k2c1 : Code := { maxStack := 3, maxLocals := 1, code := prog_58_method_3_code, exceptionTable := #[], attributes := #[] }
def k2m1 : Method := { name := "ofStored", desc := "([B)Lcom/example/opaque_token/opaquetoken/token/PinHash;", sig := { parameters := [(.array .byte)], returnType := some (.object "com/example/opaque_token/opaquetoken/token/PinHash") }, accessFlags := 8, code := some k2c1 }
def k2c2 : Code := { maxStack := 1, maxLocals := 1, code := prog_58_method_4_code, exceptionTable := #[], attributes := #[] }
def k2m2 : Method := { name := "stored", desc := "()[B", sig := { parameters := [], returnType := some (.array .byte) }, accessFlags := 0, code := some k2c2 }
def k2c3 : Code := { maxStack := 2, maxLocals := 3, code := prog_58_method_7_code, exceptionTable := #[], attributes := #[] }
def k2m3 : Method := { name := "equals", desc := "(Ljava/lang/Object;)Z", sig := { parameters := [(.object "java/lang/Object")], returnType := some .boolean }, accessFlags := 1, code := some k2c3 }
/-- com/example/opaque_token/opaquetoken/token/PinHash -/
def k2 : Class := { plain "com/example/opaque_token/opaquetoken/token/PinHash" (some 0) with
  accessFlags := 49
  interfaces := #[]
  cf := some (fileOf pool2 1 #[] #[{ accessFlags := 2, nameIndex := 9, descriptorIndex := 28, attributes := #[] }, { accessFlags := 8, nameIndex := 108, descriptorIndex := 109, attributes := #[] }, { accessFlags := 0, nameIndex := 13, descriptorIndex := 110, attributes := #[] }, { accessFlags := 1, nameIndex := 92, descriptorIndex := 116, attributes := #[] }] 49 6 #[] #[{ accessFlags := 25, nameIndex := 21, descriptorIndex := 22, attributes := #[] }, { accessFlags := 24, nameIndex := 97, descriptorIndex := 98, attributes := #[] }, { accessFlags := 26, nameIndex := 101, descriptorIndex := 98, attributes := #[] }, { accessFlags := 18, nameIndex := 13, descriptorIndex := 14, attributes := #[] }])
  fields := #[{ name := "NONE", type := (.object "com/example/opaque_token/opaquetoken/token/PinHash"), accessFlags := 25, slot := 0, constantValue := 0 }, { name := "SALT_LENGTH", type := .int, accessFlags := 24, slot := 1, constantValue := 0 }, { name := "LENGTH", type := .int, accessFlags := 26, slot := 2, constantValue := 0 }, { name := "stored", type := (.array .byte), accessFlags := 18, slot := 0, constantValue := 0 }]
  methods := #[k2m0, k2m1, k2m2, k2m3]
  instanceTypes := #[(.array .byte)]
  staticTypes := #[(.object "com/example/opaque_token/opaquetoken/token/PinHash"), .int, .int]
  resolved := Array.replicate 140 none
  statics := some 0 }

def pool3 : Array CpInfo := pool [(1, .class_ 2), (0, u "java/lang/Cloneable"), (0, .class_ 4), (0, u "java/lang/Object")] 2

/-- java/lang/Cloneable -/
def k3 : Class := { plain "java/lang/Cloneable" (some 0) with
  accessFlags := 1537
  interfaces := #[]
  cf := some (fileOf pool3 1 #[] #[] 1537 3 #[] #[])
  fields := #[]
  methods := #[]
  instanceTypes := #[]
  staticTypes := #[]
  resolved := Array.replicate 7 none
  statics := none }

def pool4 : Array CpInfo := pool [(2, .class_ 4), (1, u "java/lang/Object"), (0, u "<init>"), (0, u "()V"), (7, .class_ 16), (1, u "java/util/Arrays"), (57, .class_ 76), (1, u "java/util/Arrays$NaturalOrder"), (36, .class_ 115), (1, u "java/util/Arrays$LegacyMergeSort"), (1, u "Z"), (128, .class_ 248), (1, u "jdk/internal/util/ArraysSupport"), (0, u "mismatch"), (22, .methodref 246 273), (0, .nameAndType 249 274), (0, u "([B[BI)I"), (23, u "equals"), (76, .class_ 376), (0, u "java/util/Arrays$ArrayList"), (68, u "$assertionsDisabled"), (9, u "([B[B)Z"), (259, u "MIN_ARRAY_SORT_GRAN"), (0, u "I"), (2, u "INSERTIONSORT_THRESHOLD"), (255, .class_ 976), (0, u "java/util/Arrays$ArrayItr")] 52

def k4m0 : Method := { name := "<init>", desc := "()V", sig := { parameters := [], returnType := none }, accessFlags := 2, code := none }
def k4c1 : Code := { maxStack := 3, maxLocals := 3, code := jdk_65_method_89_code, exceptionTable := #[], attributes := #[] }
def k4m1 : Method := { name := "equals", desc := "([B[B)Z", sig := { parameters := [(.array .byte), (.array .byte)], returnType := some .boolean }, accessFlags := 9, code := some k4c1 }
/-- java/util/Arrays -/
def k4 : Class := { plain "java/util/Arrays" (some 0) with
  accessFlags := 49
  interfaces := #[]
  cf := some (fileOf pool4 14 #[.nestMembers #[975, 375, 113, 74]] #[{ accessFlags := 2, nameIndex := 5, descriptorIndex := 6, attributes := #[] }, { accessFlags := 9, nameIndex := 298, descriptorIndex := 455, attributes := #[] }] 49 2 #[] #[{ accessFlags := 26, nameIndex := 715, descriptorIndex := 716, attributes := #[] }, { accessFlags := 26, nameIndex := 719, descriptorIndex := 716, attributes := #[] }, { accessFlags := 4120, nameIndex := 445, descriptorIndex := 117, attributes := #[] }])
  fields := #[{ name := "MIN_ARRAY_SORT_GRAN", type := .int, accessFlags := 26, slot := 0, constantValue := 0 }, { name := "INSERTIONSORT_THRESHOLD", type := .int, accessFlags := 26, slot := 1, constantValue := 0 }, { name := "$assertionsDisabled", type := .boolean, accessFlags := 4120, slot := 2, constantValue := 0 }]
  methods := #[k4m0, k4m1]
  instanceTypes := #[]
  staticTypes := #[.int, .int, .boolean]
  resolved := Array.replicate 1029 none
  statics := none }

def pool5 : Array CpInfo := pool [(9, u "<init>"), (6, .class_ 18), (1, u "java/lang/Object"), (0, u "()V"), (1, .class_ 23), (1, u "jdk/internal/util/ArraysSupport"), (0, u "LOG2_ARRAY_LONG_INDEX_SCALE"), (0, u "I"), (2, u "U"), (0, u "Ljdk/internal/misc/Unsafe;"), (8, u "BIG_ENDIAN"), (0, u "Z"), (8, u "LOG2_BYTE_BIT_SIZE"), (4, u "LOG2_ARRAY_INT_INDEX_SCALE"), (54, u "JLA"), (0, u "Ljdk/internal/access/JavaLangAccess;"), (11, u "LOG2_ARRAY_BOOLEAN_INDEX_SCALE"), (9, u "LOG2_ARRAY_BYTE_INDEX_SCALE"), (5, u "LOG2_ARRAY_CHAR_INDEX_SCALE"), (5, u "LOG2_ARRAY_SHORT_INDEX_SCALE"), (5, u "mismatch"), (12, u "LOG2_ARRAY_FLOAT_INDEX_SCALE"), (24, u "LOG2_ARRAY_DOUBLE_INDEX_SCALE"), (89, u "T_BOOLEAN"), (2, u "T_CHAR"), (1, u "T_FLOAT"), (1, u "T_DOUBLE"), (1, u "T_BYTE"), (1, u "T_SHORT"), (1, u "T_INT"), (1, u "T_LONG"), (1, u "SOFT_MAX_ARRAY_LENGTH"), (41, u "([B[BI)I")] 41

def k5m0 : Method := { name := "<init>", desc := "()V", sig := { parameters := [], returnType := none }, accessFlags := 2, code := none }
def k5c1 : Code := { maxStack := 8, maxLocals := 4, code := jdk_48_method_13_code, exceptionTable := #[], attributes := #[] }
def k5m1 : Method := { name := "mismatch", desc := "([B[BI)I", sig := { parameters := [(.array .byte), (.array .byte), .int], returnType := some .int }, accessFlags := 9, code := some k5c1 }
/-- jdk/internal/util/ArraysSupport -/
def k5 : Class := { plain "jdk/internal/util/ArraysSupport" (some 0) with
  accessFlags := 33
  interfaces := #[]
  cf := some (fileOf pool5 21 #[] #[{ accessFlags := 2, nameIndex := 9, descriptorIndex := 19, attributes := #[] }, { accessFlags := 9, nameIndex := 149, descriptorIndex := 336, attributes := #[] }] 33 16 #[] #[{ accessFlags := 24, nameIndex := 28, descriptorIndex := 29, attributes := #[] }, { accessFlags := 26, nameIndex := 38, descriptorIndex := 39, attributes := #[] }, { accessFlags := 25, nameIndex := 121, descriptorIndex := 25, attributes := #[] }, { accessFlags := 25, nameIndex := 131, descriptorIndex := 25, attributes := #[] }, { accessFlags := 25, nameIndex := 137, descriptorIndex := 25, attributes := #[] }, { accessFlags := 25, nameIndex := 143, descriptorIndex := 25, attributes := #[] }, { accessFlags := 25, nameIndex := 53, descriptorIndex := 25, attributes := #[] }, { accessFlags := 25, nameIndex := 24, descriptorIndex := 25, attributes := #[] }, { accessFlags := 25, nameIndex := 162, descriptorIndex := 25, attributes := #[] }, { accessFlags := 25, nameIndex := 187, descriptorIndex := 25, attributes := #[] }, { accessFlags := 26, nameIndex := 48, descriptorIndex := 25, attributes := #[] }, { accessFlags := 25, nameIndex := 277, descriptorIndex := 25, attributes := #[] }, { accessFlags := 25, nameIndex := 280, descriptorIndex := 25, attributes := #[] }, { accessFlags := 25, nameIndex := 282, descriptorIndex := 25, attributes := #[] }, { accessFlags := 25, nameIndex := 284, descriptorIndex := 25, attributes := #[] }, { accessFlags := 25, nameIndex := 286, descriptorIndex := 25, attributes := #[] }, { accessFlags := 25, nameIndex := 288, descriptorIndex := 25, attributes := #[] }, { accessFlags := 25, nameIndex := 290, descriptorIndex := 25, attributes := #[] }, { accessFlags := 25, nameIndex := 292, descriptorIndex := 25, attributes := #[] }, { accessFlags := 26, nameIndex := 108, descriptorIndex := 109, attributes := #[] }, { accessFlags := 25, nameIndex := 294, descriptorIndex := 25, attributes := #[] }])
  fields := #[{ name := "U", type := (.object "jdk/internal/misc/Unsafe"), accessFlags := 24, slot := 0, constantValue := 0 }, { name := "BIG_ENDIAN", type := .boolean, accessFlags := 26, slot := 1, constantValue := 0 }, { name := "LOG2_ARRAY_BOOLEAN_INDEX_SCALE", type := .int, accessFlags := 25, slot := 2, constantValue := 0 }, { name := "LOG2_ARRAY_BYTE_INDEX_SCALE", type := .int, accessFlags := 25, slot := 3, constantValue := 0 }, { name := "LOG2_ARRAY_CHAR_INDEX_SCALE", type := .int, accessFlags := 25, slot := 4, constantValue := 0 }, { name := "LOG2_ARRAY_SHORT_INDEX_SCALE", type := .int, accessFlags := 25, slot := 5, constantValue := 0 }, { name := "LOG2_ARRAY_INT_INDEX_SCALE", type := .int, accessFlags := 25, slot := 6, constantValue := 0 }, { name := "LOG2_ARRAY_LONG_INDEX_SCALE", type := .int, accessFlags := 25, slot := 7, constantValue := 0 }, { name := "LOG2_ARRAY_FLOAT_INDEX_SCALE", type := .int, accessFlags := 25, slot := 8, constantValue := 0 }, { name := "LOG2_ARRAY_DOUBLE_INDEX_SCALE", type := .int, accessFlags := 25, slot := 9, constantValue := 0 }, { name := "LOG2_BYTE_BIT_SIZE", type := .int, accessFlags := 26, slot := 10, constantValue := 0 }, { name := "T_BOOLEAN", type := .int, accessFlags := 25, slot := 11, constantValue := 0 }, { name := "T_CHAR", type := .int, accessFlags := 25, slot := 12, constantValue := 0 }, { name := "T_FLOAT", type := .int, accessFlags := 25, slot := 13, constantValue := 0 }, { name := "T_DOUBLE", type := .int, accessFlags := 25, slot := 14, constantValue := 0 }, { name := "T_BYTE", type := .int, accessFlags := 25, slot := 15, constantValue := 0 }, { name := "T_SHORT", type := .int, accessFlags := 25, slot := 16, constantValue := 0 }, { name := "T_INT", type := .int, accessFlags := 25, slot := 17, constantValue := 0 }, { name := "T_LONG", type := .int, accessFlags := 25, slot := 18, constantValue := 0 }, { name := "JLA", type := (.object "jdk/internal/access/JavaLangAccess"), accessFlags := 26, slot := 19, constantValue := 0 }, { name := "SOFT_MAX_ARRAY_LENGTH", type := .int, accessFlags := 25, slot := 20, constantValue := 0 }]
  methods := #[k5m0, k5m1]
  instanceTypes := #[]
  staticTypes := #[(.object "jdk/internal/misc/Unsafe"), .boolean, .int, .int, .int, .int, .int, .int, .int, .int, .int, .int, .int, .int, .int, .int, .int, .int, .int, (.object "jdk/internal/access/JavaLangAccess"), .int]
  resolved := Array.replicate 378 none
  statics := none }

def pool6 : Array CpInfo := pool [(1, u "java/io/Serializable"), (0, .class_ 1), (0, u "java/lang/Object"), (0, .class_ 3)] 3

/-- java/io/Serializable -/
def k6 : Class := { plain "java/io/Serializable" (some 0) with
  accessFlags := 1537
  interfaces := #[]
  cf := some (fileOf pool6 2 #[] #[] 1537 4 #[] #[])
  fields := #[]
  methods := #[]
  instanceTypes := #[]
  staticTypes := #[]
  resolved := Array.replicate 8 none
  statics := none }

/-- the primitive byte -/
def k7 : Class := { plain "byte" none with kind := .primitive 'B', accessFlags := 0x411 }
/-- [B -/
def k8 : Class := { plain "[B" (some 0) with kind := .array 7 .byte, interfaces := #[3, 6], accessFlags := 1041 }

/-- the primitive int -/
def k9 : Class := { plain "int" none with kind := .primitive 'I', accessFlags := 0x411 }
/-- [I -/
def k10 : Class := { plain "[I" (some 0) with kind := .array 9 .int, interfaces := #[3, 6], accessFlags := 1041 }

def heap : Heap := #[{ cls := 2, slots := #[.ref 1, .int 0, .int 0], vm := .statics 2 },
  { cls := 2, slots := #[.ref 2], vm := .none },
  { cls := 8, slots := #[], vm := .none }]
def classes : Array Class := #[k0, k1, k2, k3, k4, k5, k6, k7, k8, k9, k10]
def interned : List (Array UInt16 × Addr) := []
def slotsUsed : Nat := 4
def theMethod : MethodId := ⟨1, 4⟩
def args0 : Array Value := #[.long 0, .long 1, .long 2, .long 3, .long 4, .long 5]
def aboutOver (below : List Frame) : State where
  vm := { classes := classes, interned := interned.toArray }
  heap := heap
  slotsUsed := slotsUsed
  threads := #[{ frames := .invoking theMethod args0 :: below }]
def below0 : List Frame := [.native { method := ⟨0, 0⟩, args := #[] }]
def about1 : State := aboutOver below0
def p0 : Program := .bare "" "" ""
def e0 : Env := launch0.env 0 0 0
theorem w_frames : about1.frames = Frame.invoking theMethod args0 :: below0 := rfl
set_option maxRecDepth 65536 in
theorem w_args : argsFit about1.vm theMethod args0 = true := by decide +kernel
set_option maxRecDepth 65536 in
theorem w_heap : heapFits about1 = true := by decide +kernel
set_option maxRecDepth 65536 in
theorem w_runnable : about1.curStatus? = some .runnable := by decide +kernel
set_option maxRecDepth 65536 in
theorem w_alone : about1.alone = true := by decide +kernel
set_option maxRecDepth 65536 in
theorem w_named : about1.methodNamed? x = some theMethod := by decide +kernel
set_option maxRecDepth 65536 in
theorem w_hears : about1.hears theMethod below0 = true := by decide +kernel
set_option maxRecDepth 65536 in
theorem w_ripe : about1.ripe theMethod args0 below0 = true := by decide +kernel
theorem w_running : about1.status = .running := rfl
set_option maxRecDepth 65536 in
theorem w_room : about1.hasRoom e0.platform room_1 = true :=
  launch0.hasRoom_least _ room_1 (by decide +kernel) (by decide +kernel) (by decide +kernel) (by decide +kernel) (by decide +kernel) (by decide +kernel)
theorem allAtoms_all (ts : List Jvm.Cond) (a : Array Jvm.Value) (st : Jvm.State) : (allAtoms ts).before a st = ts.all (fun c => c.before a st) := by
  induction ts with
  | nil => rfl
  | cons c t ih =>
    show (Jvm.Cond.and c (allAtoms t)).before a st = _
    rw [Jvm.Cond.before_and, ih, List.all_cons]
def words1 : List Jvm.Cond := Jvm.Cond.code x code maxLocals ret :: tables_1
/-- a 'code' word, met by the world's own term for the bytes: nothing is compared byte by byte -/
theorem code_word {y : MethodName} {bytes : ByteArray} {mx : Nat} {rt : Option FieldType} {a : Array Value} {s : State} {m : MethodId} {meth : Method} {c : Code} (h1 : s.methodNamed? y = some m) (h2 : s.vm.method? m = some meth) (h3 : meth.code = some c) (h4 : c.code = bytes)
    (h5 : (c.maxLocals == mx && c.exceptionTable.isEmpty && decide (c.maxStack ≤ mostOperands) && decide (meth.sig.returnType = rt) && !meth.locks && decide (parseMethodDescriptor y.desc = some meth.sig)) = true) : (Jvm.Cond.code y bytes mx rt).before a s = true := by
  simp only [Bool.and_eq_true, beq_iff_eq, Bool.not_eq_true', decide_eq_true_eq] at h5
  obtain ⟨⟨⟨⟨⟨g1, g2⟩, g3⟩, g4⟩, g5⟩, g6⟩ := h5
  simp [Cond.before, Cond.holds, Cond.value, h1, h2, h3, h4, g1, g2, g3, g4, g5, g6]
def isCode : Jvm.Cond → Bool
  | .code _ _ _ _ => true
  | _ => false
theorem all_split {L : List Jvm.Cond} {P : Jvm.Cond → Bool} (h1 : L.all (fun c => isCode c || P c) = true) (h2 : ∀ c ∈ L.filter isCode, P c = true) : L.all P = true := by
  refine List.all_eq_true.mpr fun c hc => ?_
  have h := List.all_eq_true.mp h1 c hc
  rcases Bool.eq_false_or_eq_true (isCode c) with hi | hi
  · exact h2 c (List.mem_filter.mpr ⟨hc, hi⟩)
  · simpa [hi] using h
set_option maxRecDepth 65536 in
theorem w_c0 : (Jvm.Cond.code x code maxLocals ret).before args0 about1 = true := code_word (m := ⟨1, 4⟩) (meth := k1m4) (c := k1c4) (by decide +kernel) rfl rfl rfl (by decide +kernel)
set_option maxRecDepth 65536 in
theorem w_c1 : (Jvm.Cond.code ({ cls := "com/example/opaque_token/opaquetoken/token/PinHashOfStoredPinLaw", name := "put", desc := "([BIJ)V" } : Jvm.MethodName) method_2_code (4 : Nat) (Option.none : Option Jvm.ClassFile.FieldType)).before args0 about1 = true := code_word (m := ⟨1, 1⟩) (meth := k1m1) (c := k1c1) (by decide +kernel) rfl rfl rfl (by decide +kernel)
set_option maxRecDepth 65536 in
theorem w_c2 : (Jvm.Cond.code ({ cls := "com/example/opaque_token/opaquetoken/token/PinHash", name := "ofStored", desc := "([B)Lcom/example/opaque_token/opaquetoken/token/PinHash;" } : Jvm.MethodName) prog_58_method_3_code (1 : Nat) (Option.some (Jvm.ClassFile.FieldType.object "com/example/opaque_token/opaquetoken/token/PinHash"))).before args0 about1 = true := code_word (m := ⟨2, 1⟩) (meth := k2m1) (c := k2c1) (by decide +kernel) rfl rfl rfl (by decide +kernel)
set_option maxRecDepth 65536 in
theorem w_c3 : (Jvm.Cond.code ({ cls := "com/example/opaque_token/opaquetoken/token/PinHash", name := "<init>", desc := "([B)V" } : Jvm.MethodName) prog_58_method_1_code (2 : Nat) (Option.none : Option Jvm.ClassFile.FieldType)).before args0 about1 = true := code_word (m := ⟨2, 0⟩) (meth := k2m0) (c := k2c0) (by decide +kernel) rfl rfl rfl (by decide +kernel)
set_option maxRecDepth 65536 in
theorem w_c4 : (Jvm.Cond.code ({ cls := "java/lang/Object", name := "<init>", desc := "()V" } : Jvm.MethodName) object_method_1_code (1 : Nat) (Option.none : Option Jvm.ClassFile.FieldType)).before args0 about1 = true := code_word (m := ⟨0, 0⟩) (meth := k0m0) (c := k0c0) (by decide +kernel) rfl rfl rfl (by decide +kernel)
set_option maxRecDepth 65536 in
theorem w_c5 : (Jvm.Cond.code ({ cls := "com/example/opaque_token/opaquetoken/token/PinHash", name := "stored", desc := "()[B" } : Jvm.MethodName) prog_58_method_4_code (1 : Nat) (Option.some (Jvm.ClassFile.FieldType.array Jvm.ClassFile.FieldType.byte))).before args0 about1 = true := code_word (m := ⟨2, 2⟩) (meth := k2m2) (c := k2c2) (by decide +kernel) rfl rfl rfl (by decide +kernel)
set_option maxRecDepth 65536 in
theorem w_c6 : (Jvm.Cond.code ({ cls := "com/example/opaque_token/opaquetoken/token/PinHashOfStoredPinLaw", name := "same", desc := "([BJJJJJJ)Z" } : Jvm.MethodName) method_4_code (13 : Nat) (Option.some Jvm.ClassFile.FieldType.boolean)).before args0 about1 = true := code_word (m := ⟨1, 3⟩) (meth := k1m3) (c := k1c3) (by decide +kernel) rfl rfl rfl (by decide +kernel)
set_option maxRecDepth 65536 in
theorem w_c7 : (Jvm.Cond.code ({ cls := "com/example/opaque_token/opaquetoken/token/PinHashOfStoredPinLaw", name := "get", desc := "([BI)J" } : Jvm.MethodName) method_3_code (2 : Nat) (Option.some Jvm.ClassFile.FieldType.long)).before args0 about1 = true := code_word (m := ⟨1, 2⟩) (meth := k1m2) (c := k1c2) (by decide +kernel) rfl rfl rfl (by decide +kernel)
set_option maxRecDepth 65536 in
theorem w_c8 : (Jvm.Cond.code ({ cls := "com/example/opaque_token/opaquetoken/token/PinHash", name := "equals", desc := "(Ljava/lang/Object;)Z" } : Jvm.MethodName) prog_58_method_7_code (3 : Nat) (Option.some Jvm.ClassFile.FieldType.boolean)).before args0 about1 = true := code_word (m := ⟨2, 3⟩) (meth := k2m3) (c := k2c3) (by decide +kernel) rfl rfl rfl (by decide +kernel)
set_option maxRecDepth 65536 in
theorem w_c9 : (Jvm.Cond.code ({ cls := "java/util/Arrays", name := "equals", desc := "([B[B)Z" } : Jvm.MethodName) jdk_65_method_89_code (3 : Nat) (Option.some Jvm.ClassFile.FieldType.boolean)).before args0 about1 = true := code_word (m := ⟨4, 1⟩) (meth := k4m1) (c := k4c1) (by decide +kernel) rfl rfl rfl (by decide +kernel)
set_option maxRecDepth 65536 in
theorem w_c10 : (Jvm.Cond.code ({ cls := "jdk/internal/util/ArraysSupport", name := "mismatch", desc := "([B[BI)I" } : Jvm.MethodName) jdk_48_method_13_code (4 : Nat) (Option.some Jvm.ClassFile.FieldType.int)).before args0 about1 = true := code_word (m := ⟨5, 1⟩) (meth := k5m1) (c := k5c1) (by decide +kernel) rfl rfl rfl (by decide +kernel)
def codes1 : List Jvm.Cond := [Jvm.Cond.code x code maxLocals ret, Jvm.Cond.code ({ cls := "com/example/opaque_token/opaquetoken/token/PinHashOfStoredPinLaw", name := "put", desc := "([BIJ)V" } : Jvm.MethodName) method_2_code (4 : Nat) (Option.none : Option Jvm.ClassFile.FieldType), Jvm.Cond.code ({ cls := "com/example/opaque_token/opaquetoken/token/PinHash", name := "ofStored", desc := "([B)Lcom/example/opaque_token/opaquetoken/token/PinHash;" } : Jvm.MethodName) prog_58_method_3_code (1 : Nat) (Option.some (Jvm.ClassFile.FieldType.object "com/example/opaque_token/opaquetoken/token/PinHash")), Jvm.Cond.code ({ cls := "com/example/opaque_token/opaquetoken/token/PinHash", name := "<init>", desc := "([B)V" } : Jvm.MethodName) prog_58_method_1_code (2 : Nat) (Option.none : Option Jvm.ClassFile.FieldType), Jvm.Cond.code ({ cls := "java/lang/Object", name := "<init>", desc := "()V" } : Jvm.MethodName) object_method_1_code (1 : Nat) (Option.none : Option Jvm.ClassFile.FieldType), Jvm.Cond.code ({ cls := "com/example/opaque_token/opaquetoken/token/PinHash", name := "stored", desc := "()[B" } : Jvm.MethodName) prog_58_method_4_code (1 : Nat) (Option.some (Jvm.ClassFile.FieldType.array Jvm.ClassFile.FieldType.byte)), Jvm.Cond.code ({ cls := "com/example/opaque_token/opaquetoken/token/PinHashOfStoredPinLaw", name := "same", desc := "([BJJJJJJ)Z" } : Jvm.MethodName) method_4_code (13 : Nat) (Option.some Jvm.ClassFile.FieldType.boolean), Jvm.Cond.code ({ cls := "com/example/opaque_token/opaquetoken/token/PinHashOfStoredPinLaw", name := "get", desc := "([BI)J" } : Jvm.MethodName) method_3_code (2 : Nat) (Option.some Jvm.ClassFile.FieldType.long), Jvm.Cond.code ({ cls := "com/example/opaque_token/opaquetoken/token/PinHash", name := "equals", desc := "(Ljava/lang/Object;)Z" } : Jvm.MethodName) prog_58_method_7_code (3 : Nat) (Option.some Jvm.ClassFile.FieldType.boolean), Jvm.Cond.code ({ cls := "java/util/Arrays", name := "equals", desc := "([B[B)Z" } : Jvm.MethodName) jdk_65_method_89_code (3 : Nat) (Option.some Jvm.ClassFile.FieldType.boolean), Jvm.Cond.code ({ cls := "jdk/internal/util/ArraysSupport", name := "mismatch", desc := "([B[BI)I" } : Jvm.MethodName) jdk_48_method_13_code (4 : Nat) (Option.some Jvm.ClassFile.FieldType.int)]
set_option maxRecDepth 65536 in
theorem codes_eq : words1.filter isCode = codes1 := rfl
theorem w_codes : ∀ c ∈ words1.filter isCode, c.before args0 about1 = true := by
  rw [codes_eq]
  intro c hc
  simp only [codes1, List.mem_cons, List.not_mem_nil, or_false] at hc
  rcases hc with rfl | rfl | rfl | rfl | rfl | rfl | rfl | rfl | rfl | rfl | rfl
  · exact w_c0
  · exact w_c1
  · exact w_c2
  · exact w_c3
  · exact w_c4
  · exact w_c5
  · exact w_c6
  · exact w_c7
  · exact w_c8
  · exact w_c9
  · exact w_c10
set_option maxRecDepth 65536 in
theorem w_t1 : (words1.take 24).all (fun c => isCode c || c.before args0 about1) = true := by decide +kernel
set_option maxRecDepth 65536 in
theorem w_t2 : ((words1.drop 24).take 24).all (fun c => isCode c || c.before args0 about1) = true := by decide +kernel
set_option maxRecDepth 65536 in
theorem w_t3 : ((words1.drop 24).drop 24).all (fun c => isCode c || c.before args0 about1) = true := by decide +kernel
theorem w_tables : (allAtoms (Jvm.Cond.code x code maxLocals ret :: tables_1)).before args0 about1 = true := by
  rw [allAtoms_all]
  show words1.all (fun c => c.before args0 about1) = true
  refine all_split ?_ w_codes
  rw [← List.take_append_drop 24 words1, List.all_append, w_t1, ← List.take_append_drop 24 (words1.drop 24), List.all_append, w_t2, w_t3]
  rfl
set_option maxRecDepth 65536 in
theorem w_case : (Jvm.Cond.and given_1 narrow_1).before args0 about1 = true := by decide +kernel
theorem w_applies : (headSpec (Jvm.Cond.code x code maxLocals ret :: tables_1) room_1).applies x e0.platform about1 = true :=
  (Spec.applies_iff w_frames).mpr ⟨w_running, w_runnable, w_alone, w_named, w_hears, w_ripe, w_room, w_tables⟩
theorem atStart : AtStart classFile x code maxLocals ret World_1 tables_1 room_1 Calls_1 rest_1 Pre_1 launch0 p0 e0 about1 theMethod args0 below0 :=
  ⟨lists_1, trivial, launch0.admits_env _ _ _, launch0.least_env, fairChoices_fair.cas, fairChoices_fair.clock, w_frames, w_args, w_heap, w_applies, trivial, trivial, w_case⟩
end start1
theorem witness_1 : WitnessClaimed_1 := ⟨start1.p0, start1.e0, start1.about1, start1.theMethod, start1.args0, start1.below0, start1.atStart⟩
end Jvm.Pilot.@@N@@
