import JvmDerived
import JvmDerived.Pilot.@@N@@Statement
import JvmDerived.Pilot.@@N@@Code
set_option linter.unusedVariables false
set_option linter.unusedSimpArgs false
namespace Jvm.Pilot.@@N@@
open Jvm Jvm.ClassFile Sem Op Lib Jvm.Free Jvm.Stand Jvm.LawKit Jvm.RoadKit Bundle Jvm.Pilot.@@N@@.Jvm.D
section OwnKit
variable {p : Program} {l : Launch} {e : Env} {R : Room} {s : State} {m : MethodId} {args : Array Value} {below : List Frame} {meth : Method} {c : Code} {T T' : State} {locs : List Loc} {cells slots ck sk : Nat} {Q : Option Value → Heap → List Loc → Prop} {g g' : JFrame}
/-- from the state T with the top frame g the body ends, and Q says how -/
def Goes (p : Program) (e : Env) (below : List Frame) (s : State) (ck sk : Nat) (Q : Option Value → Heap → List Loc → Prop) (T : State) (g : JFrame) : Prop :=
  ∃ s₂ o, Steps p.tables e below (T.setTop g) s₂ ∧ s₂.status = .running ∧ Ended s₂ below o ∧ ∃ v L, o = .returned v ∧ Q v s₂.heap L ∧ FrameEnd s o s₂ L ck sk
theorem go (h : ∀ t, Steps p.tables e below (T'.setTop g') t → Steps p.tables e below (T.setTop g) t) (k : Goes p e below s ck sk Q T' g') : Goes p e below s ck sk Q T g := by
  obtain ⟨s₂, o, h1, r⟩ := k
  exact ⟨s₂, o, h _ h1, r⟩
theorem goV (h : Steps p.tables e below (T.setTop g) (T'.setTop g')) (k : Goes p e below s ck sk Q T' g') : Goes p e below s ck sk Q T g := go (fun _ kt => h.trans kt) k
theorem goEq (h : g = g') (k : Goes p e below s ck sk Q T g') : Goes p e below s ck sk Q T g := h ▸ k
theorem goVia {T₂ : State} {g₂ : JFrame} (h : Goes p e below s ck sk Q T₂ g₂ → Goes p e below s ck sk Q T g) (k : Goes p e below s ck sk Q T₂ g₂) : Goes p e below s ck sk Q T g := h k
theorem goRetN (X : Stand p l e R s m args below meth c T locs cells slots) (hx : p.tables.exec = Jvm.exec) (hlk : meth.locks = false) {pc : Nat} {Ls : Array Slot} {z : Int32} {t : FieldType} {rest : List Value} (hret : meth.sig.returnType = some t) (ht : t = .boolean ∨ t = .byte ∨ t = .char ∨ t = .short) (hd : decode c.code pc = .ok (.ireturn, 1))
    (hq : Q (some (.int (nar t z))) T.heap locs) (h1 : cells ≤ ck) (h2 : slots ≤ sk) : Goes p e below s ck sk Q T (mkF m pc Ls (.int z :: rest)) := by
  obtain ⟨fs, hr, hrun, hended, hW, hsame⟩ := X.leave (v := some (.int (nar t z))) (fun h => by rw [hret] at h; cases h)
  exact ⟨_, _, retN X hx hret ht hd hr, hrun, hended, _, _, rfl, hq, ⟨_, rfl⟩, hW, hsame.mono h1 h2⟩
theorem goRetI (X : Stand p l e R s m args below meth c T locs cells slots) (hx : p.tables.exec = Jvm.exec) (hlk : meth.locks = false) {pc : Nat} {Ls : Array Slot} {z : Int32} {rest : List Value} (hret : meth.sig.returnType = some .int) (hd : decode c.code pc = .ok (.ireturn, 1))
    (hq : Q (some (.int z)) T.heap locs) (h1 : cells ≤ ck) (h2 : slots ≤ sk) : Goes p e below s ck sk Q T (mkF m pc Ls (.int z :: rest)) := by
  obtain ⟨fs, hr, hrun, hended, hW, hsame⟩ := X.leave (v := some (.int z)) (fun h => by rw [hret] at h; cases h)
  exact ⟨_, _, retOut X hx hret rfl (Or.inl ⟨rfl, Or.inl rfl, z, rfl⟩) hd hr, hrun, hended, _, _, rfl, hq, ⟨_, rfl⟩, hW, hsame.mono h1 h2⟩
theorem goRetJ (X : Stand p l e R s m args below meth c T locs cells slots) (hx : p.tables.exec = Jvm.exec) (hlk : meth.locks = false) {pc : Nat} {Ls : Array Slot} {z : Int64} {rest : List Value} (hret : meth.sig.returnType = some .long) (hd : decode c.code pc = .ok (.lreturn, 1))
    (hq : Q (some (.long z)) T.heap locs) (h1 : cells ≤ ck) (h2 : slots ≤ sk) : Goes p e below s ck sk Q T (mkF m pc Ls (.long z :: rest)) := by
  obtain ⟨fs, hr, hrun, hended, hW, hsame⟩ := X.leave (v := some (.long z)) (fun h => by rw [hret] at h; cases h)
  exact ⟨_, _, retOut X hx hret rfl (Or.inr (Or.inl ⟨rfl, rfl, z, rfl⟩)) hd hr, hrun, hended, _, _, rfl, hq, ⟨_, rfl⟩, hW, hsame.mono h1 h2⟩
theorem goRetA (X : Stand p l e R s m args below meth c T locs cells slots) (hx : p.tables.exec = Jvm.exec) (hlk : meth.locks = false) {pc : Nat} {Ls : Array Slot} {w : Value} {t : FieldType} {rest : List Value} (hret : meth.sig.returnType = some t) (ht : t.isReference = true) (hn : narrow t w = w) (hw : w.isRef = true) (hd : decode c.code pc = .ok (.areturn, 1))
    (hq : Q (some w) T.heap locs) (h1 : cells ≤ ck) (h2 : slots ≤ sk) : Goes p e below s ck sk Q T (mkF m pc Ls (w :: rest)) := by
  obtain ⟨fs, hr, hrun, hended, hW, hsame⟩ := X.leave (v := some w) (fun h => by rw [hret] at h; cases h)
  exact ⟨_, _, retOut X hx hret hn (Or.inr (Or.inr (Or.inr (Or.inr ⟨rfl, ht, hw⟩)))) hd hr, hrun, hended, _, _, rfl, hq, ⟨_, rfl⟩, hW, hsame.mono h1 h2⟩
theorem goRetV (X : Stand p l e R s m args below meth c T locs cells slots) (hx : p.tables.exec = Jvm.exec) (hlk : meth.locks = false) {pc : Nat} {Ls : Array Slot} (hret : meth.sig.returnType = none) (hd : decode c.code pc = .ok (.return_, 1))
    (hq : Q none T.heap locs) (h1 : cells ≤ ck) (h2 : slots ≤ sk) : Goes p e below s ck sk Q T (mkF m pc Ls []) := by
  obtain ⟨fs, hr, hrun, hended, hW, hsame⟩ := X.leave (v := none) (fun _ => rfl)
  exact ⟨_, _, X.returnOut hx hret hd hr, hrun, hended, _, _, rfl, hq, ⟨_, rfl⟩, hW, hsame.mono h1 h2⟩
theorem own_l0 {x y : Int64} (h : x = y) : ifCond.holds .eq (lcmpW x y) = true ∧ ifCond.holds .ne (lcmpW x y) = false := by rw [if0, if0]; exact teq ((lw_eq x y).mpr h)
theorem own_l1 {x y : Int64} (h : ¬ x = y) : ifCond.holds .eq (lcmpW x y) = false ∧ ifCond.holds .ne (lcmpW x y) = true := by rw [if0, if0]; exact feq fun q => h ((lw_eq x y).mp q)
theorem own_l2 {x y : Int64} (h : x < y) : ifCond.holds .lt (lcmpW x y) = true ∧ ifCond.holds .ge (lcmpW x y) = false := by rw [if0, if0]; exact ⟨(tlt ((lw_lt x y).mpr h)).1, (tlt ((lw_lt x y).mpr h)).2.1⟩
theorem own_l3 {x y : Int64} (h : ¬ x < y) : ifCond.holds .lt (lcmpW x y) = false ∧ ifCond.holds .ge (lcmpW x y) = true := by
  rw [if0, if0]
  have q : ¬ lcmpW x y < 0 := fun q => h ((lw_lt x y).mp q)
  exact ⟨(flt q).1, (flt q).2.1⟩
theorem own_l4 {x y : Int64} (h : y < x) : ifCond.holds .gt (lcmpW x y) = true ∧ ifCond.holds .le (lcmpW x y) = false := by rw [if0, if0]; exact ⟨(tlt ((lw_gt x y).mpr h)).2.2.1, (tlt ((lw_gt x y).mpr h)).2.2.2⟩
theorem own_l5 {x y : Int64} (h : ¬ y < x) : ifCond.holds .gt (lcmpW x y) = false ∧ ifCond.holds .le (lcmpW x y) = true := by
  rw [if0, if0]
  have q : ¬ 0 < lcmpW x y := fun q => h ((lw_gt x y).mp q)
  exact ⟨(flt q).2.2.1, (flt q).2.2.2⟩
end OwnKit
theorem nn_toInt {i : Nat} (h : i < 2 ^ 31) : (Int32.ofNat i).toInt = i := Int32.toInt_ofNat_of_lt h
theorem nn_nat {i : Nat} (h : i < 2 ^ 31) : (Int32.ofNat i).toNatClampNeg = i := by
  simp only [Int32.toNatClampNeg, nn_toInt h]; rfl
theorem nn_lt {i j : Nat} (hi : i < 2 ^ 31) (hj : j < 2 ^ 31) : Int32.ofNat i < Int32.ofNat j ↔ i < j := by
  rw [Int32.lt_iff_toInt_lt, nn_toInt hi, nn_toInt hj]; omega
theorem nn_eq {i j : Nat} (hi : i < 2 ^ 31) (hj : j < 2 ^ 31) : Int32.ofNat i = Int32.ofNat j ↔ i = j := by
  rw [← Int32.toInt_inj, nn_toInt hi, nn_toInt hj]; omega
theorem nn_add (i j : Nat) : Int32.ofNat i + Int32.ofNat j = Int32.ofNat (i + j) := (Int32.ofNat_add i j).symm
theorem nn_mul (i j : Nat) : Int32.ofNat i * Int32.ofNat j = Int32.ofNat (i * j) := (Int32.ofNat_mul i j).symm
theorem nn_sub {i j : Nat} (h : j ≤ i) : Int32.ofNat i - Int32.ofNat j = Int32.ofNat (i - j) := by
  rw [Int32.sub_eq_iff_eq_add, nn_add, Nat.sub_add_cancel h]
theorem nn_of {x : Int32} (h : 0 ≤ x.toInt) : x = Int32.ofNat x.toInt.toNat := by
  apply Int32.toInt_inj.mp
  have := x.toInt_lt
  rw [nn_toInt (by omega)]; omega
theorem nn_neg {i : Nat} (hi : i < 2 ^ 31) : ¬ Int32.ofNat i < 0 := by
  intro q; have q := Int32.lt_iff_toInt_lt.mp q; rw [nn_toInt hi] at q; simp at q; omega
theorem own_and31 (x : Int32) : 0 ≤ (x &&& 2147483647).toInt := by
  have h : (x &&& 2147483647).toBitVec.msb = false := by
    show (x.toBitVec &&& 2147483647#32).msb = false
    rw [BitVec.msb_and, show (2147483647#32).msb = false from by decide, Bool.and_false]
  show 0 ≤ (x &&& 2147483647).toBitVec.toInt
  rw [BitVec.toInt_eq_msb_cond, h]; simp
theorem nn_rem {x : Int32} (h : 0 ≤ x.toInt) {k : Nat} (hk : 0 < k) (hk2 : k < 2 ^ 31) : ∃ i, i < k ∧ x % Int32.ofNat k = Int32.ofNat i := by
  have e : (x % Int32.ofNat k).toInt = x.toInt.tmod k := by rw [Int32.toInt_mod, nn_toInt hk2]
  have h1 : 0 ≤ x.toInt.tmod k := Int.tmod_nonneg _ h
  have h2 : x.toInt.tmod k < k := Int.tmod_lt_of_pos _ (by omega)
  refine ⟨(x % Int32.ofNat k).toInt.toNat, by omega, nn_of (by omega)⟩
theorem own_mask64 (x : Int64) : 0 ≤ (x &&& 9223372036854775807).toInt := by
  have h : (x &&& 9223372036854775807).toBitVec.msb = false := by
    show (x.toBitVec &&& 9223372036854775807#64).msb = false
    rw [BitVec.msb_and, show (9223372036854775807#64).msb = false from by decide, Bool.and_false]
  show 0 ≤ (x &&& 9223372036854775807).toBitVec.toInt
  rw [BitVec.toInt_eq_msb_cond, h]; simp
theorem own_and7 (x : Int32) : ∃ i, i < 8 ∧ x &&& 7 = Int32.ofNat i := by
  refine ⟨(x &&& 7).toBitVec.toNat, ?_, ?_⟩
  · show (x.toBitVec &&& 7#32).toNat < 8
    rw [BitVec.toNat_and]; exact Nat.lt_of_le_of_lt Nat.and_le_right (by decide)
  · apply Int32.toBitVec_inj.mp
    show _ = BitVec.ofNat 32 _
    rw [BitVec.ofNat_toNat, BitVec.setWidth_eq]
theorem own_andk (x : Int32) {k : Nat} (hk : k < 2 ^ 32) : ∃ i, i ≤ k ∧ x &&& Int32.ofNat k = Int32.ofNat i := by
  refine ⟨(x &&& Int32.ofNat k).toBitVec.toNat, ?_, ?_⟩
  · show (x.toBitVec &&& BitVec.ofNat 32 k).toNat ≤ k
    rw [BitVec.toNat_and, BitVec.toNat_ofNat, Nat.mod_eq_of_lt hk]; exact Nat.and_le_right
  · apply Int32.toBitVec_inj.mp
    show _ = BitVec.ofNat 32 _
    rw [BitVec.ofNat_toNat, BitVec.setWidth_eq]
def own_fl (g : Nat → Int32) (q : Nat) : Nat → Nat → Nat → Nat
  | 0, i, _ => i
  | k + 1, i, sep => if g i = 44 then (if sep + 1 = q then i + 1 else own_fl g q k (i + 1) (sep + 1)) else own_fl g q k (i + 1) sep
def own_cnt (g : Nat → Int32) : Nat → Nat → Nat
  | 0, _ => 0
  | k + 1, i => (if g i = 44 then 1 else 0) + own_cnt g k (i + 1)
theorem own_spec (g : Nat → Int32) (q : Nat) : ∀ k i sep, sep < q → i ≤ own_fl g q k i sep ∧ own_fl g q k i sep ≤ i + k ∧ (own_cnt g k i + sep < q → own_fl g q k i sep = i + k) ∧ (q ≤ own_cnt g k i + sep → i < own_fl g q k i sep ∧ g (own_fl g q k i sep - 1) = 44 ∧ own_cnt g (own_fl g q k i sep - i) i + sep = q) := by
  intro k
  induction k with
  | zero => intro i sep h; simp only [own_fl, own_cnt]; refine ⟨by omega, by omega, fun _ => by omega, fun h2 => by omega⟩
  | succ k ih =>
    intro i sep h
    by_cases hp : g i = 44
    · by_cases hq : sep + 1 = q
      · have e : own_fl g q (k + 1) i sep = i + 1 := by simp only [own_fl]; rw [if_pos hp, if_pos hq]
        rw [e]
        refine ⟨by omega, by omega, fun h2 => ?_, fun _ => ⟨by omega, by simpa using hp, ?_⟩⟩
        · simp only [own_cnt] at h2; rw [if_pos hp] at h2; omega
        · rw [show i + 1 - i = 0 + 1 by omega]; simp only [own_cnt]; rw [if_pos hp]; omega
      · have e : own_fl g q (k + 1) i sep = own_fl g q k (i + 1) (sep + 1) := by simp only [own_fl]; rw [if_pos hp, if_neg hq]
        obtain ⟨h1, h2, h3, h4⟩ := ih (i + 1) (sep + 1) (by omega)
        rw [e]
        generalize own_fl g q k (i + 1) (sep + 1) = z at *
        refine ⟨by omega, by omega, fun r => ?_, fun r => ?_⟩
        · simp only [own_cnt] at r; rw [if_pos hp] at r; have := h3 (by omega); omega
        · simp only [own_cnt] at r; rw [if_pos hp] at r
          obtain ⟨t1, t2, t3⟩ := h4 (by omega)
          refine ⟨by omega, t2, ?_⟩
          rw [show z - i = (z - (i + 1)) + 1 by omega]; simp only [own_cnt]; rw [if_pos hp]; omega
    · have e : own_fl g q (k + 1) i sep = own_fl g q k (i + 1) sep := by simp only [own_fl]; rw [if_neg hp]
      obtain ⟨h1, h2, h3, h4⟩ := ih (i + 1) sep h
      rw [e]
      generalize own_fl g q k (i + 1) sep = z at *
      refine ⟨by omega, by omega, fun r => ?_, fun r => ?_⟩
      · simp only [own_cnt] at r; rw [if_neg hp] at r; have := h3 (by omega); omega
      · simp only [own_cnt] at r; rw [if_neg hp] at r
        obtain ⟨t1, t2, t3⟩ := h4 (by omega)
        refine ⟨by omega, t2, ?_⟩
        rw [show z - i = (z - (i + 1)) + 1 by omega]; simp only [own_cnt]; rw [if_neg hp]; omega
def own_at (g : Nat → Int32) (i a b : Nat) : Nat := if i < a then 0 else if i < b then (if g i = 44 then 1 else 0) else 0
def own_com (g : Nat → Int32) (a b : Nat) : Nat := own_at g 0 a b + own_at g 1 a b + own_at g 2 a b + own_at g 3 a b + own_at g 4 a b + own_at g 5 a b
theorem own_comc (g : Nat → Int32) {a b : Nat} (h1 : a ≤ b) (h2 : b ≤ 6) : own_com g a b = own_cnt g (b - a) a := by
  have ha : a = 0 ∨ a = 1 ∨ a = 2 ∨ a = 3 ∨ a = 4 ∨ a = 5 ∨ a = 6 := by omega
  have hb : b = 0 ∨ b = 1 ∨ b = 2 ∨ b = 3 ∨ b = 4 ∨ b = 5 ∨ b = 6 := by omega
  rcases ha with rfl | rfl | rfl | rfl | rfl | rfl | rfl <;> rcases hb with rfl | rfl | rfl | rfl | rfl | rfl | rfl <;> first | omega | (simp [own_com, own_at, own_cnt, Nat.add_assoc]; done)
theorem own_comle (g : Nat → Int32) (a b : Nat) : own_com g a b ≤ 6 := by
  have h : ∀ i, own_at g i a b ≤ 1 := fun i => by unfold own_at; repeat' split
                                                  all_goals omega
  have := h 0; have := h 1; have := h 2; have := h 3; have := h 4; have := h 5
  unfold own_com; omega
section OwnArr
variable {p : Program} {l : Launch} {e : Env} {R : Room} {s : State} {m : MethodId} {args : Array Value} {below : List Frame} {meth : Method} {c : Code} {T : State} {locs : List Loc} {cells slots : Nat} {Z : State} {h h' : Heap} {a b : Addr} {v : Value} {sl : Nat} {ty : FieldType} {n : Int32} {f f' : Nat → Value} {ws : List Addr}
/-- an array of n places: place i holds f i -/
def Aw (Z : State) (h : Heap) (a : Addr) (ty : FieldType) (n : Int32) (f : Nat → Value) : Prop := ∃ c : Cell, Arr Z h a c ty ∧ c.slots.size = n.toNatClampNeg ∧ ¬ n < 0 ∧ (∀ i, i < c.slots.size → c.slots[i]? = some (f i)) ∧ ∀ i, i < c.slots.size → fits ty (f i) = true
def upd (f : Nat → Value) (j : Nat) (v : Value) : Nat → Value := fun i => if i = j then v else f i
theorem Aw.lt (F : Aw Z h a ty n f) : a < h.size := by obtain ⟨c, A, -⟩ := F; exact A.lt
theorem Aw.ext (F : Aw Z h a ty n f) (E : Ext h h') : Aw Z h' a ty n f := by obtain ⟨c, A, r⟩ := F; exact ⟨c, A.ext E, r⟩
theorem Aw.other (F : Aw Z h b ty n f) (W : Wr h h' a sl v) (q : b ≠ a) : Aw Z h' b ty n f := by obtain ⟨c, A, r⟩ := F; exact ⟨c, A.other W q, r⟩
theorem Aw.keep (F : Aw Z h a ty n f) (K : Keep h h' ws) (q : a ∉ ws) : Aw Z h' a ty n f := by obtain ⟨c, A, r⟩ := F; exact ⟨c, ⟨K.2.1 a c A.1 q, A.2⟩, r⟩
theorem Aw.new {k : ClassId} (A : Arr Z h a (newA k ty n) ty) (q : ¬ n < 0) : Aw Z h a ty n (fun _ => defaultValue ty) := ⟨_, A, sz_new _ _ _, q, fun i hi => by rw [sz_new] at hi; simp [newA, hi], fun i _ => by cases ty <;> rfl⟩
theorem Aw.set (F : Aw Z h a ty n f) {j : Nat} (W : Wr h h' a j v) (hv : fits ty v = true) : Aw Z h' a ty n (upd f j v) := by
  obtain ⟨c, A, S, N, H, G⟩ := F
  refine ⟨_, A.same W, by rw [sz_set]; exact S, N, fun i hi => ?_, fun i hi => ?_⟩ <;> rw [sz_set] at hi <;> unfold upd <;> split
  · rename_i q; subst q; simp [Cell.setSlot, hi]
  · rename_i q; simp only [Cell.setSlot]; rw [Array.getElem?_setIfInBounds_ne (Ne.symm q)]; exact H i hi
  · exact hv
  · exact G i hi
theorem Aw.congr (F : Aw Z h a ty n f) (q : ∀ i, i < n.toNatClampNeg → f' i = f i) : Aw Z h a ty n f' := by
  obtain ⟨c, A, S, N, H, G⟩ := F
  exact ⟨c, A, S, N, fun i hi => by rw [q i (S ▸ hi)]; exact H i hi, fun i hi => by rw [q i (S ▸ hi)]; exact G i hi⟩
theorem Aw.nn (F : Aw Z h a ty n f) : ¬ n < 0 := by obtain ⟨c, A, S, N, -⟩ := F; exact N
theorem own_stI (X : Stand p l e R s m args below meth c T locs cells slots) (hx : p.tables.exec = Jvm.exec) (hZ : Z.Warmed39 s.vm) (eT : T.heap = h) (F : Aw Z h a .int n f) {j x : Int32} (hj : ¬ j < 0 ∧ j < n) {g : JFrame} (hg : g.method = m) {rest : List Value} (hs : g.stack = .int x :: .int j :: .ref a :: rest) (hd : decode c.code g.pc = .ok (.iastore, 1)) :
    ∃ T' h', Stand p l e R s m args below meth c T' (locs ++ [⟨a, j.toNatClampNeg⟩]) cells slots ∧ T'.heap = h' ∧ Wr h h' a j.toNatClampNeg (.int x) ∧ Aw Z h' a .int n (upd f j.toNatClampNeg (.int x)) ∧ ∀ target, Steps p.tables e below (T'.setTop { g with pc := g.pc + 1, stack := rest }) target → Steps p.tables e below (T.setTop g) target := by
  obtain ⟨cl, A, S, r⟩ := F
  obtain ⟨T', h', X', e', W, st⟩ := stI X hx hZ eT A (inb_of S hj) hg hs hd
  exact ⟨T', h', X', e', W, Aw.set ⟨cl, A, S, r⟩ W rfl, st⟩
theorem own_stJ (X : Stand p l e R s m args below meth c T locs cells slots) (hx : p.tables.exec = Jvm.exec) (hZ : Z.Warmed39 s.vm) (eT : T.heap = h) (F : Aw Z h a .long n f) {j : Int32} {x : Int64} (hj : ¬ j < 0 ∧ j < n) {g : JFrame} (hg : g.method = m) {rest : List Value} (hs : g.stack = .long x :: .int j :: .ref a :: rest) (hd : decode c.code g.pc = .ok (.lastore, 1)) :
    ∃ T' h', Stand p l e R s m args below meth c T' (locs ++ [⟨a, j.toNatClampNeg⟩]) cells slots ∧ T'.heap = h' ∧ Wr h h' a j.toNatClampNeg (.long x) ∧ Aw Z h' a .long n (upd f j.toNatClampNeg (.long x)) ∧ ∀ target, Steps p.tables e below (T'.setTop { g with pc := g.pc + 1, stack := rest }) target → Steps p.tables e below (T.setTop g) target := by
  obtain ⟨cl, A, S, r⟩ := F
  obtain ⟨T', h', X', e', W, st⟩ := stJ X hx hZ eT A (inb_of S hj) hg hs hd
  exact ⟨T', h', X', e', W, Aw.set ⟨cl, A, S, r⟩ W rfl, st⟩
theorem own_stB (X : Stand p l e R s m args below meth c T locs cells slots) (hx : p.tables.exec = Jvm.exec) (hZ : Z.Warmed39 s.vm) (eT : T.heap = h) (F : Aw Z h a .byte n f) {j x : Int32} (hj : ¬ j < 0 ∧ j < n) {g : JFrame} (hg : g.method = m) {rest : List Value} (hs : g.stack = .int x :: .int j :: .ref a :: rest) (hd : decode c.code g.pc = .ok (.bastore, 1)) :
    ∃ T' h', Stand p l e R s m args below meth c T' (locs ++ [⟨a, j.toNatClampNeg⟩]) cells slots ∧ T'.heap = h' ∧ Wr h h' a j.toNatClampNeg (.int x.toInt8.toInt32) ∧ Aw Z h' a .byte n (upd f j.toNatClampNeg (.int x.toInt8.toInt32)) ∧ ∀ target, Steps p.tables e below (T'.setTop { g with pc := g.pc + 1, stack := rest }) target → Steps p.tables e below (T.setTop g) target := by
  obtain ⟨cl, A, S, r⟩ := F
  obtain ⟨T', h', X', e', W, st⟩ := stB X hx hZ eT A (inb_of S hj) hg hs hd
  exact ⟨T', h', X', e', W, Aw.set ⟨cl, A, S, r⟩ W (fits_nar_byte _), st⟩
theorem own_len (X : Stand p l e R s m args below meth c T locs cells slots) (hx : p.tables.exec = Jvm.exec) (hZ : Z.Warmed39 s.vm) (eT : T.heap = h) (F : Aw Z h a ty n f) {g : JFrame} (hg : g.method = m) {rest : List Value} (hs : g.stack = .ref a :: rest) (hd : decode c.code g.pc = .ok (.arraylength, 1)) (target : State)
    (k : Steps p.tables e below (T.setTop { g with pc := g.pc + 1, stack := .int n :: rest }) target) : Steps p.tables e below (T.setTop g) target := by
  obtain ⟨cl, A, S, N, -⟩ := F
  refine X.arraylength hx (by rw [eT]; exact A.1) (State.isArrayOf_alike hZ.alike A.2.1) hg hs hd _ ?_
  rw [len_of S N]; exact k
theorem own_ldI (X : Stand p l e R s m args below meth c T locs cells slots) (hx : p.tables.exec = Jvm.exec) (hZ : Z.Warmed39 s.vm) (eT : T.heap = h) (F : Aw Z h a .int n f) {j : Int32} (hj : ¬ j < 0 ∧ j < n) (hv : f j.toNatClampNeg = v) {g : JFrame} (hg : g.method = m) {rest : List Value} (hs : g.stack = .int j :: .ref a :: rest) (hd : decode c.code g.pc = .ok (.iaload, 1)) (target : State)
    (k : Steps p.tables e below (T.setTop { g with pc := g.pc + 1, stack := v :: rest }) target) : Steps p.tables e below (T.setTop g) target := by
  obtain ⟨cl, A, S, N, H, -⟩ := F
  have hin := inb_of S hj
  exact X.iaload hx (by rw [eT]; exact A.1) (State.isArrayOf_alike hZ.alike A.2.1) A.2.2 hin (hv ▸ H _ (Nat.lt_of_not_le fun q => hin (Or.inr q))) hg hs hd _ k
theorem own_ldJ (X : Stand p l e R s m args below meth c T locs cells slots) (hx : p.tables.exec = Jvm.exec) (hZ : Z.Warmed39 s.vm) (eT : T.heap = h) (F : Aw Z h a .long n f) {j : Int32} (hj : ¬ j < 0 ∧ j < n) (hv : f j.toNatClampNeg = v) {g : JFrame} (hg : g.method = m) {rest : List Value} (hs : g.stack = .int j :: .ref a :: rest) (hd : decode c.code g.pc = .ok (.laload, 1)) (target : State)
    (k : Steps p.tables e below (T.setTop { g with pc := g.pc + 1, stack := v :: rest }) target) : Steps p.tables e below (T.setTop g) target := by
  obtain ⟨cl, A, S, N, H, -⟩ := F
  have hin := inb_of S hj
  exact X.laload hx (by rw [eT]; exact A.1) (State.isArrayOf_alike hZ.alike A.2.1) A.2.2 hin (hv ▸ H _ (Nat.lt_of_not_le fun q => hin (Or.inr q))) hg hs hd _ k
theorem own_ldB (X : Stand p l e R s m args below meth c T locs cells slots) (hx : p.tables.exec = Jvm.exec) (hZ : Z.Warmed39 s.vm) (eT : T.heap = h) (F : Aw Z h a .byte n f) {j : Int32} (hj : ¬ j < 0 ∧ j < n) (hv : f j.toNatClampNeg = v) {g : JFrame} (hg : g.method = m) {rest : List Value} (hs : g.stack = .int j :: .ref a :: rest) (hd : decode c.code g.pc = .ok (.baload, 1)) (target : State)
    (k : Steps p.tables e below (T.setTop { g with pc := g.pc + 1, stack := v :: rest }) target) : Steps p.tables e below (T.setTop g) target := by
  obtain ⟨cl, A, S, N, H, -⟩ := F
  have hin := inb_of S hj
  exact X.baloadBytes hx (by rw [eT]; exact A.1) (State.isArrayOf_alike hZ.alike A.2.1) A.2.2 hin (hv ▸ H _ (Nat.lt_of_not_le fun q => hin (Or.inr q))) hg hs hd _ k
end OwnArr
def own_vi : Value → Int32
  | .int x => x
  | _ => 0
def own_ints (f : Nat → Value) : Prop := ∀ i, .int (own_vi (f i)) = f i
theorem own_ints_upd {f : Nat → Value} (h : own_ints f) (j : Nat) (x : Int32) : own_ints (upd f j (.int x)) := fun i => by
  unfold upd; split
  · rfl
  · exact h i

theorem d1_0 : decode method_2_code 0 = .ok (.iload_n 2, 1) := by decide +kernel
theorem d1_1 : decode method_2_code 1 = .ok (.iload_n 3, 1) := by decide +kernel
theorem d1_2 : decode method_2_code 2 = .ok (.iushr, 1) := by decide +kernel
theorem d1_3 : decode method_2_code 3 = .ok (.iconst 1, 1) := by decide +kernel
theorem d1_4 : decode method_2_code 4 = .ok (.iand, 1) := by decide +kernel
theorem d1_5 : decode method_2_code 5 = .ok (.ifCond .eq 8, 3) := by decide +kernel
theorem d1_8 : decode method_2_code 8 = .ok (.bipush 44, 2) := by decide +kernel
theorem d1_10 : decode method_2_code 10 = .ok (.goto 11, 3) := by decide +kernel
theorem d1_13 : decode method_2_code 13 = .ok (.lload_n 0, 1) := by decide +kernel
theorem d1_14 : decode method_2_code 14 = .ok (.bipush 8, 2) := by decide +kernel
theorem d1_16 : decode method_2_code 16 = .ok (.iload_n 3, 1) := by decide +kernel
theorem d1_17 : decode method_2_code 17 = .ok (.imul, 1) := by decide +kernel
theorem d1_18 : decode method_2_code 18 = .ok (.lushr, 1) := by decide +kernel
theorem d1_19 : decode method_2_code 19 = .ok (.l2i, 1) := by decide +kernel
theorem d1_20 : decode method_2_code 20 = .ok (.i2b, 1) := by decide +kernel
theorem d1_21 : decode method_2_code 21 = .ok (.ireturn, 1) := by decide +kernel
theorem pn_1 : plainName "com/example/tallyward/tallyward/io/CsvFieldsLengthPinLaw" = true := by first | (simp [plainName, overriddenIn]; done) | decide +kernel
theorem ef_1 (m : MethodId) (q1 : Int64) (p1 : Int32) (p2 : Int32) : entryFrame m #[(.long q1), (.int p1), (.int p2)] 4 = mkF m 0 #[.val (.long q1), .second, .val (.int p1), .val (.int p2)] [] := by first | (simp [entryFrame, mkF, argsToLocals, Value.category]; done) | rfl
def Q1 (Z : State) (q1 : Int64) (p1 : Int32) (p2 : Int32) (h0 : Heap) (n0 : Nat) (v : Option Value) (h : Heap) (L : List Loc) : Prop := ∃ x, v = some (.int x) ∧ Fr n0 L ∧ h = h0
set_option maxRecDepth 65536 in
set_option maxHeartbeats 40000000 in
theorem rm1 (l : Launch) (Z : State) (a0 : Array Value) (hw : ∀ d ∈ tables_1, d.before a0 Z = true) (ws : List Jvm.Cond) (q1 : Int64) (p1 : Int32) (p2 : Int32) (h0 : Heap) (n0 : Nat) (Z0 : n0 ≤ h0.size)  :
    MetFree l (⟨"com/example/tallyward/tallyward/io/CsvFieldsLengthPinLaw", "pick", "(JII)B"⟩ : MethodName) (head1 (Jvm.Cond.code (⟨"com/example/tallyward/tallyward/io/CsvFieldsLengthPinLaw", "pick", "(JII)B"⟩ : MethodName) method_2_code 4 (some .byte) :: ws) ({ frames := 0, cells := 0, slots := 0, locals := 0 } : Room)) (fun a U => a = #[(.long q1), (.int p1), (.int p2)] ∧ Z.Warmed39 U.vm ∧ U.heap = h0) (fun _ _ _ _ _ => True) (fun _ U o U' => ∃ v L, o = .returned v ∧ Q1 Z q1 p1 p2 h0 n0 v U'.heap L ∧ FrameEnd U o U' L ({ frames := 0, cells := 0, slots := 0, locals := 0 } : Room).cells ({ frames := 0, cells := 0, slots := 0, locals := 0 } : Room).slots) := by
  refine MetFree.of_bodySF (plainFor_of_name pn_1) hisR ?_
  intro p e s m args below meth c s₁ Bd hml0 hP hK
  obtain ⟨rfl, hZ, hh⟩ := hP
  have hx := Bd.exec
  have hby := Bd.bytes
  have hlk := Bd.notSynchronized
  have hml : c.maxLocals = 4 := hml0
  have hown : s.vm.findClass "com/example/tallyward/tallyward/io/CsvFieldsLengthPinLaw" = some m.cls := findClass_of_methodNamed Bd.named
  have hnm := (name_of_methodNamed Bd.named Bd.method).1
  have X0 : Stand p l e ({ frames := 0, cells := 0, slots := 0, locals := 0 } : Room) s m #[(.long q1), (.int p1), (.int p2)] below meth c s₁ [] 0 0 := Stand.of_body Bd
  have e0 : s₁.heap = h0 := by rw [← hh, Bd.state]; rfl
  have N0 := Fr.nil n0
  show Goes p e below s 0 0 (Q1 Z q1 p1 p2 h0 n0) s₁ (entryFrame m #[(.long q1), (.int p1), (.int p2)] 4)
  refine goEq (ef_1 m q1 p1 p2) ?_
  refine go (T' := s₁) (g' := (mkF m 1 #[.val (.long q1), .second, .val (.int p1), .val (.int p2)] [(.int p1)])) (fun t kt => XS.iloadN X0.here hx rfl (hb hby d1_0) rfl kt) ?_
  refine go (T' := s₁) (g' := (mkF m 2 #[.val (.long q1), .second, .val (.int p1), .val (.int p2)] [(.int p2), (.int p1)])) (fun t kt => XS.iloadN X0.here hx rfl (hb hby d1_1) rfl kt) ?_
  refine go (T' := s₁) (g' := (mkF m 3 #[.val (.long q1), .second, .val (.int p1), .val (.int p2)] [(.int ((p1.toUInt32 >>> (p2 &&& 31).toUInt32).toInt32))])) (fun t kt => XS.iushr X0.here hx rfl (hb hby d1_2) rfl kt) ?_
  refine go (T' := s₁) (g' := (mkF m 4 #[.val (.long q1), .second, .val (.int p1), .val (.int p2)] [(.int (1 : Int32)), (.int ((p1.toUInt32 >>> (p2 &&& 31).toUInt32).toInt32))])) (fun t kt => XS.iconst X0.here hx rfl (hb hby d1_3) kt) ?_
  refine go (T' := s₁) (g' := (mkF m 5 #[.val (.long q1), .second, .val (.int p1), .val (.int p2)] [(.int (((p1.toUInt32 >>> (p2 &&& 31).toUInt32).toInt32) &&& (1 : Int32)))])) (fun t kt => XS.iand X0.here hx rfl (hb hby d1_4) rfl kt) ?_
  by_cases hc : (((p1.toUInt32 >>> (p2 &&& 31).toUInt32).toInt32) &&& (1 : Int32)) = (0 : Int32)
  · refine go (T' := s₁) (g' := (mkF m 13 #[.val (.long q1), .second, .val (.int p1), .val (.int p2)] [])) (fun t kt => XS.ifYes X0.here hx rfl (pc0 := 5) (pc' := 13) rfl (hb hby d1_5) rfl ((if0 _ _).trans (teq hc).1) (by decide) (by decide) kt) ?_
    refine go (T' := s₁) (g' := (mkF m 14 #[.val (.long q1), .second, .val (.int p1), .val (.int p2)] [(.long q1)])) (fun t kt => XS.lloadN X0.here hx rfl (hb hby d1_13) rfl kt) ?_
    refine go (T' := s₁) (g' := (mkF m 16 #[.val (.long q1), .second, .val (.int p1), .val (.int p2)] [(.int (8 : Int32)), (.long q1)])) (fun t kt => XS.bipush X0.here hx rfl (hb hby d1_14) kt) ?_
    refine go (T' := s₁) (g' := (mkF m 17 #[.val (.long q1), .second, .val (.int p1), .val (.int p2)] [(.int p2), (.int (8 : Int32)), (.long q1)])) (fun t kt => XS.iloadN X0.here hx rfl (hb hby d1_16) rfl kt) ?_
    refine go (T' := s₁) (g' := (mkF m 18 #[.val (.long q1), .second, .val (.int p1), .val (.int p2)] [(.int ((8 : Int32) * p2)), (.long q1)])) (fun t kt => XS.imul X0.here hx rfl (hb hby d1_17) rfl kt) ?_
    refine go (T' := s₁) (g' := (mkF m 19 #[.val (.long q1), .second, .val (.int p1), .val (.int p2)] [(.long ((q1.toUInt64 >>> (((8 : Int32) * p2) &&& 0x3f).toInt64.toUInt64).toInt64))])) (fun t kt => XS.lushr X0.here hx rfl (hb hby d1_18) rfl kt) ?_
    refine go (T' := s₁) (g' := (mkF m 20 #[.val (.long q1), .second, .val (.int p1), .val (.int p2)] [(.int (((q1.toUInt64 >>> (((8 : Int32) * p2) &&& 0x3f).toInt64.toUInt64).toInt64).toInt32))])) (fun t kt => XS.l2i X0.here hx rfl (hb hby d1_19) rfl kt) ?_
    refine go (T' := s₁) (g' := (mkF m 21 #[.val (.long q1), .second, .val (.int p1), .val (.int p2)] [(.int ((((q1.toUInt64 >>> (((8 : Int32) * p2) &&& 0x3f).toInt64.toUInt64).toInt64).toInt32).toInt8.toInt32))])) (fun t kt => XS.i2b X0.here hx rfl (hb hby d1_20) rfl kt) ?_
    refine goRetN X0 hx hlk (t := .byte) Bd.returns (by simp) (hb hby d1_21) ?_ (by decide) (by decide)
    rw [e0]
    exact ⟨_, rfl, N0, rfl⟩
  · refine go (T' := s₁) (g' := (mkF m 8 #[.val (.long q1), .second, .val (.int p1), .val (.int p2)] [])) (fun t kt => XS.ifNo X0.here hx rfl (hb hby d1_5) rfl ((if0 _ _).trans (feq hc).1) kt) ?_
    refine go (T' := s₁) (g' := (mkF m 10 #[.val (.long q1), .second, .val (.int p1), .val (.int p2)] [(.int (44 : Int32))])) (fun t kt => XS.bipush X0.here hx rfl (hb hby d1_8) kt) ?_
    refine go (T' := s₁) (g' := (mkF m 21 #[.val (.long q1), .second, .val (.int p1), .val (.int p2)] [(.int (44 : Int32))])) (fun t kt => XS.goto X0.here hx rfl (pc0 := 10) (pc' := 21) rfl (hb hby d1_10) (by decide) (by decide) kt) ?_
    refine goRetN X0 hx hlk (t := .byte) Bd.returns (by simp) (hb hby d1_21) ?_ (by decide) (by decide)
    rw [e0]
    exact ⟨_, rfl, N0, rfl⟩
theorem d4_0 : decode method_3_code 0 = .ok (.iload_n 2, 1) := by decide +kernel
theorem d4_1 : decode method_3_code 1 = .ok (.iload_n 1, 1) := by decide +kernel
theorem d4_2 : decode method_3_code 2 = .ok (.if_icmp .gt 20, 3) := by decide +kernel
theorem d4_5 : decode method_3_code 5 = .ok (.iload_n 1, 1) := by decide +kernel
theorem d4_6 : decode method_3_code 6 = .ok (.iload_n 3, 1) := by decide +kernel
theorem d4_7 : decode method_3_code 7 = .ok (.if_icmp .ge 15, 3) := by decide +kernel
theorem d4_10 : decode method_3_code 10 = .ok (.aload_n 0, 1) := by decide +kernel
theorem d4_11 : decode method_3_code 11 = .ok (.iload_n 1, 1) := by decide +kernel
theorem d4_12 : decode method_3_code 12 = .ok (.baload, 1) := by decide +kernel
theorem d4_13 : decode method_3_code 13 = .ok (.bipush 44, 2) := by decide +kernel
theorem d4_15 : decode method_3_code 15 = .ok (.if_icmp .ne 7, 3) := by decide +kernel
theorem d4_18 : decode method_3_code 18 = .ok (.iconst 1, 1) := by decide +kernel
theorem d4_19 : decode method_3_code 19 = .ok (.goto 4, 3) := by decide +kernel
theorem d4_22 : decode method_3_code 22 = .ok (.iconst 0, 1) := by decide +kernel
theorem d4_23 : decode method_3_code 23 = .ok (.ireturn, 1) := by decide +kernel
theorem ef_4 (m : MethodId) (a1 : Addr) (p1 : Int32) (p2 : Int32) (p3 : Int32) : entryFrame m #[(.ref a1), (.int p1), (.int p2), (.int p3)] 4 = mkF m 0 #[.val (.ref a1), .val (.int p1), .val (.int p2), .val (.int p3)] [] := by first | (simp [entryFrame, mkF, argsToLocals, Value.category]; done) | rfl
def Q4 (Z : State) (a1 : Addr) (p1 : Int32) (p2 : Int32) (p3 : Int32) (g : Nat → Int32) (i : Nat) (a : Nat) (b : Nat) (h0 : Heap) (n0 : Nat) (v : Option Value) (h : Heap) (L : List Loc) : Prop := v = some (.int (Int32.ofNat (own_at g i a b))) ∧ Fr n0 L ∧ h = h0
set_option maxRecDepth 65536 in
set_option maxHeartbeats 40000000 in
theorem rm4 (l : Launch) (Z : State) (a0 : Array Value) (hw : ∀ d ∈ tables_1, d.before a0 Z = true) (ws : List Jvm.Cond) (a1 : Addr) (p1 : Int32) (p2 : Int32) (p3 : Int32) (g : Nat → Int32) (i : Nat) (a : Nat) (b : Nat) (h0 : Heap) (n0 : Nat) (Z0 : n0 ≤ h0.size) (V1 : Aw Z h0 a1 .byte 6 (fun i => .int (g i))) (e1 : p1 = Int32.ofNat i) (e2 : p2 = Int32.ofNat a) (e3 : p3 = Int32.ofNat b) (hi : i < 6) (ha : a ≤ 6) (hb' : b ≤ 6) :
    MetFree l (⟨"com/example/tallyward/tallyward/io/CsvFieldsLengthPinLaw", "at", "([BIII)I"⟩ : MethodName) (head1 (Jvm.Cond.code (⟨"com/example/tallyward/tallyward/io/CsvFieldsLengthPinLaw", "at", "([BIII)I"⟩ : MethodName) method_3_code 4 (some .int) :: ws) ({ frames := 0, cells := 0, slots := 0, locals := 0 } : Room)) (fun a U => a = #[(.ref a1), (.int p1), (.int p2), (.int p3)] ∧ Z.Warmed39 U.vm ∧ U.heap = h0) (fun _ _ _ _ _ => True) (fun _ U o U' => ∃ v L, o = .returned v ∧ Q4 Z a1 p1 p2 p3 g i a b h0 n0 v U'.heap L ∧ FrameEnd U o U' L ({ frames := 0, cells := 0, slots := 0, locals := 0 } : Room).cells ({ frames := 0, cells := 0, slots := 0, locals := 0 } : Room).slots) := by
  refine MetFree.of_bodySF (plainFor_of_name pn_1) hisR ?_
  intro p e s m args below meth c s₁ Bd hml0 hP hK
  obtain ⟨rfl, hZ, hh⟩ := hP
  have hx := Bd.exec
  have hby := Bd.bytes
  have hlk := Bd.notSynchronized
  have hml : c.maxLocals = 4 := hml0
  have hown : s.vm.findClass "com/example/tallyward/tallyward/io/CsvFieldsLengthPinLaw" = some m.cls := findClass_of_methodNamed Bd.named
  have hnm := (name_of_methodNamed Bd.named Bd.method).1
  have X0 : Stand p l e ({ frames := 0, cells := 0, slots := 0, locals := 0 } : Room) s m #[(.ref a1), (.int p1), (.int p2), (.int p3)] below meth c s₁ [] 0 0 := Stand.of_body Bd
  have e0 : s₁.heap = h0 := by rw [← hh, Bd.state]; rfl
  have N0 := Fr.nil n0
  show Goes p e below s 0 0 (Q4 Z a1 p1 p2 p3 g i a b h0 n0) s₁ (entryFrame m #[(.ref a1), (.int p1), (.int p2), (.int p3)] 4)
  refine goEq (ef_4 m a1 p1 p2 p3) ?_
  refine goEq (g' := (mkF m 0 #[.val (.ref a1), .val (.int (Int32.ofNat i)), .val (.int p2), .val (.int p3)] [])) (by rw [e1]) ?_
  refine goEq (g' := (mkF m 0 #[.val (.ref a1), .val (.int (Int32.ofNat i)), .val (.int (Int32.ofNat a)), .val (.int p3)] [])) (by rw [e2]) ?_
  refine goEq (g' := (mkF m 0 #[.val (.ref a1), .val (.int (Int32.ofNat i)), .val (.int (Int32.ofNat a)), .val (.int (Int32.ofNat b))] [])) (by rw [e3]) ?_
  refine go (T' := s₁) (g' := (mkF m 1 #[.val (.ref a1), .val (.int (Int32.ofNat i)), .val (.int (Int32.ofNat a)), .val (.int (Int32.ofNat b))] [(.int (Int32.ofNat a))])) (fun t kt => XS.iloadN X0.here hx rfl (hb hby d4_0) rfl kt) ?_
  refine go (T' := s₁) (g' := (mkF m 2 #[.val (.ref a1), .val (.int (Int32.ofNat i)), .val (.int (Int32.ofNat a)), .val (.int (Int32.ofNat b))] [(.int (Int32.ofNat i)), (.int (Int32.ofNat a))])) (fun t kt => XS.iloadN X0.here hx rfl (hb hby d4_1) rfl kt) ?_
  by_cases h1 : (Int32.ofNat i) < (Int32.ofNat a)
  · refine go (T' := s₁) (g' := (mkF m 22 #[.val (.ref a1), .val (.int (Int32.ofNat i)), .val (.int (Int32.ofNat a)), .val (.int (Int32.ofNat b))] [])) (fun t kt => XS.icmpYes X0.here hx rfl (pc0 := 2) (pc' := 22) rfl (hb hby d4_2) rfl (tlt h1).2.2.1 (by decide) (by decide) kt) ?_
    refine go (T' := s₁) (g' := (mkF m 23 #[.val (.ref a1), .val (.int (Int32.ofNat i)), .val (.int (Int32.ofNat a)), .val (.int (Int32.ofNat b))] [(.int (0 : Int32))])) (fun t kt => XS.iconst X0.here hx rfl (hb hby d4_22) kt) ?_
    refine goRetI X0 hx hlk Bd.returns (hb hby d4_23) ?_ (by decide) (by decide)
    rw [e0]
    exact ⟨by rw [own_at, if_pos ((nn_lt (by omega) (by omega)).mp h1)]; rfl, N0, rfl⟩
  · refine go (T' := s₁) (g' := (mkF m 5 #[.val (.ref a1), .val (.int (Int32.ofNat i)), .val (.int (Int32.ofNat a)), .val (.int (Int32.ofNat b))] [])) (fun t kt => XS.icmpNo X0.here hx rfl (hb hby d4_2) rfl (flt h1).2.2.1 kt) ?_
    have k1 : ¬ i < a := fun q => h1 ((nn_lt (by omega) (by omega)).mpr q)
    refine go (T' := s₁) (g' := (mkF m 6 #[.val (.ref a1), .val (.int (Int32.ofNat i)), .val (.int (Int32.ofNat a)), .val (.int (Int32.ofNat b))] [(.int (Int32.ofNat i))])) (fun t kt => XS.iloadN X0.here hx rfl (hb hby d4_5) rfl kt) ?_
    refine go (T' := s₁) (g' := (mkF m 7 #[.val (.ref a1), .val (.int (Int32.ofNat i)), .val (.int (Int32.ofNat a)), .val (.int (Int32.ofNat b))] [(.int (Int32.ofNat b)), (.int (Int32.ofNat i))])) (fun t kt => XS.iloadN X0.here hx rfl (hb hby d4_6) rfl kt) ?_
    by_cases h2 : (Int32.ofNat i) < (Int32.ofNat b)
    · refine go (T' := s₁) (g' := (mkF m 10 #[.val (.ref a1), .val (.int (Int32.ofNat i)), .val (.int (Int32.ofNat a)), .val (.int (Int32.ofNat b))] [])) (fun t kt => XS.icmpNo X0.here hx rfl (hb hby d4_7) rfl (tlt h2).2.1 kt) ?_
      have k2 := (nn_lt (by omega) (by omega)).mp h2
      refine go (T' := s₁) (g' := (mkF m 11 #[.val (.ref a1), .val (.int (Int32.ofNat i)), .val (.int (Int32.ofNat a)), .val (.int (Int32.ofNat b))] [(.ref a1)])) (fun t kt => XS.aloadN X0.here hx rfl (hb hby d4_10) rfl rfl kt) ?_
      refine go (T' := s₁) (g' := (mkF m 12 #[.val (.ref a1), .val (.int (Int32.ofNat i)), .val (.int (Int32.ofNat a)), .val (.int (Int32.ofNat b))] [(.int (Int32.ofNat i)), (.ref a1)])) (fun t kt => XS.iloadN X0.here hx rfl (hb hby d4_11) rfl kt) ?_
      refine go (T' := s₁) (g' := (mkF m 13 #[.val (.ref a1), .val (.int (Int32.ofNat i)), .val (.int (Int32.ofNat a)), .val (.int (Int32.ofNat b))] [(.int (g i))])) (fun t kt => own_ldB X0 hx hZ e0 V1 (j := (Int32.ofNat i)) ⟨nn_neg (by omega), (nn_lt (j := 6) (by omega) (by omega)).mpr hi⟩ (v := (.int (g i))) (by show Value.int (g _) = _; rw [nn_nat (by omega)]) (g := (mkF m 12 #[.val (.ref a1), .val (.int (Int32.ofNat i)), .val (.int (Int32.ofNat a)), .val (.int (Int32.ofNat b))] [(.int (Int32.ofNat i)), (.ref a1)])) rfl rfl (hb hby d4_12) _ kt) ?_
      refine go (T' := s₁) (g' := (mkF m 15 #[.val (.ref a1), .val (.int (Int32.ofNat i)), .val (.int (Int32.ofNat a)), .val (.int (Int32.ofNat b))] [(.int (44 : Int32)), (.int (g i))])) (fun t kt => XS.bipush X0.here hx rfl (hb hby d4_13) kt) ?_
      by_cases h3 : (g i) = (44 : Int32)
      · refine go (T' := s₁) (g' := (mkF m 18 #[.val (.ref a1), .val (.int (Int32.ofNat i)), .val (.int (Int32.ofNat a)), .val (.int (Int32.ofNat b))] [])) (fun t kt => XS.icmpNo X0.here hx rfl (hb hby d4_15) rfl (teq h3).2 kt) ?_
        refine go (T' := s₁) (g' := (mkF m 19 #[.val (.ref a1), .val (.int (Int32.ofNat i)), .val (.int (Int32.ofNat a)), .val (.int (Int32.ofNat b))] [(.int (1 : Int32))])) (fun t kt => XS.iconst X0.here hx rfl (hb hby d4_18) kt) ?_
        refine go (T' := s₁) (g' := (mkF m 23 #[.val (.ref a1), .val (.int (Int32.ofNat i)), .val (.int (Int32.ofNat a)), .val (.int (Int32.ofNat b))] [(.int (1 : Int32))])) (fun t kt => XS.goto X0.here hx rfl (pc0 := 19) (pc' := 23) rfl (hb hby d4_19) (by decide) (by decide) kt) ?_
        refine goRetI X0 hx hlk Bd.returns (hb hby d4_23) ?_ (by decide) (by decide)
        rw [e0]
        exact ⟨by rw [own_at, if_neg k1, if_pos k2, if_pos h3]; rfl, N0, rfl⟩
      · refine go (T' := s₁) (g' := (mkF m 22 #[.val (.ref a1), .val (.int (Int32.ofNat i)), .val (.int (Int32.ofNat a)), .val (.int (Int32.ofNat b))] [])) (fun t kt => XS.icmpYes X0.here hx rfl (pc0 := 15) (pc' := 22) rfl (hb hby d4_15) rfl (feq h3).2 (by decide) (by decide) kt) ?_
        refine go (T' := s₁) (g' := (mkF m 23 #[.val (.ref a1), .val (.int (Int32.ofNat i)), .val (.int (Int32.ofNat a)), .val (.int (Int32.ofNat b))] [(.int (0 : Int32))])) (fun t kt => XS.iconst X0.here hx rfl (hb hby d4_22) kt) ?_
        refine goRetI X0 hx hlk Bd.returns (hb hby d4_23) ?_ (by decide) (by decide)
        rw [e0]
        exact ⟨by rw [own_at, if_neg k1, if_pos k2, if_neg h3]; rfl, N0, rfl⟩
    · refine go (T' := s₁) (g' := (mkF m 22 #[.val (.ref a1), .val (.int (Int32.ofNat i)), .val (.int (Int32.ofNat a)), .val (.int (Int32.ofNat b))] [])) (fun t kt => XS.icmpYes X0.here hx rfl (pc0 := 7) (pc' := 22) rfl (hb hby d4_7) rfl (flt h2).2.1 (by decide) (by decide) kt) ?_
      have k2 : ¬ i < b := fun q => h2 ((nn_lt (by omega) (by omega)).mpr q)
      refine go (T' := s₁) (g' := (mkF m 23 #[.val (.ref a1), .val (.int (Int32.ofNat i)), .val (.int (Int32.ofNat a)), .val (.int (Int32.ofNat b))] [(.int (0 : Int32))])) (fun t kt => XS.iconst X0.here hx rfl (hb hby d4_22) kt) ?_
      refine goRetI X0 hx hlk Bd.returns (hb hby d4_23) ?_ (by decide) (by decide)
      rw [e0]
      exact ⟨by rw [own_at, if_neg k1, if_neg k2]; rfl, N0, rfl⟩
theorem d3_0 : decode method_4_code 0 = .ok (.aload_n 0, 1) := by decide +kernel
theorem d3_1 : decode method_4_code 1 = .ok (.iconst 0, 1) := by decide +kernel
theorem d3_2 : decode method_4_code 2 = .ok (.iload_n 1, 1) := by decide +kernel
theorem d3_3 : decode method_4_code 3 = .ok (.iload_n 2, 1) := by decide +kernel
theorem d3_4 : decode method_4_code 4 = .ok (.invokestatic 7, 3) := by decide +kernel
theorem d3_7 : decode method_4_code 7 = .ok (.aload_n 0, 1) := by decide +kernel
theorem d3_8 : decode method_4_code 8 = .ok (.iconst 1, 1) := by decide +kernel
theorem d3_9 : decode method_4_code 9 = .ok (.iload_n 1, 1) := by decide +kernel
theorem d3_10 : decode method_4_code 10 = .ok (.iload_n 2, 1) := by decide +kernel
theorem d3_11 : decode method_4_code 11 = .ok (.invokestatic 7, 3) := by decide +kernel
theorem d3_14 : decode method_4_code 14 = .ok (.iadd, 1) := by decide +kernel
theorem d3_15 : decode method_4_code 15 = .ok (.aload_n 0, 1) := by decide +kernel
theorem d3_16 : decode method_4_code 16 = .ok (.iconst 2, 1) := by decide +kernel
theorem d3_17 : decode method_4_code 17 = .ok (.iload_n 1, 1) := by decide +kernel
theorem d3_18 : decode method_4_code 18 = .ok (.iload_n 2, 1) := by decide +kernel
theorem d3_19 : decode method_4_code 19 = .ok (.invokestatic 7, 3) := by decide +kernel
theorem d3_22 : decode method_4_code 22 = .ok (.iadd, 1) := by decide +kernel
theorem d3_23 : decode method_4_code 23 = .ok (.aload_n 0, 1) := by decide +kernel
theorem d3_24 : decode method_4_code 24 = .ok (.iconst 3, 1) := by decide +kernel
theorem d3_25 : decode method_4_code 25 = .ok (.iload_n 1, 1) := by decide +kernel
theorem d3_26 : decode method_4_code 26 = .ok (.iload_n 2, 1) := by decide +kernel
theorem d3_27 : decode method_4_code 27 = .ok (.invokestatic 7, 3) := by decide +kernel
theorem d3_30 : decode method_4_code 30 = .ok (.iadd, 1) := by decide +kernel
theorem d3_31 : decode method_4_code 31 = .ok (.aload_n 0, 1) := by decide +kernel
theorem d3_32 : decode method_4_code 32 = .ok (.iconst 4, 1) := by decide +kernel
theorem d3_33 : decode method_4_code 33 = .ok (.iload_n 1, 1) := by decide +kernel
theorem d3_34 : decode method_4_code 34 = .ok (.iload_n 2, 1) := by decide +kernel
theorem d3_35 : decode method_4_code 35 = .ok (.invokestatic 7, 3) := by decide +kernel
theorem d3_38 : decode method_4_code 38 = .ok (.iadd, 1) := by decide +kernel
theorem d3_39 : decode method_4_code 39 = .ok (.aload_n 0, 1) := by decide +kernel
theorem d3_40 : decode method_4_code 40 = .ok (.iconst 5, 1) := by decide +kernel
theorem d3_41 : decode method_4_code 41 = .ok (.iload_n 1, 1) := by decide +kernel
theorem d3_42 : decode method_4_code 42 = .ok (.iload_n 2, 1) := by decide +kernel
theorem d3_43 : decode method_4_code 43 = .ok (.invokestatic 7, 3) := by decide +kernel
theorem d3_46 : decode method_4_code 46 = .ok (.iadd, 1) := by decide +kernel
theorem d3_47 : decode method_4_code 47 = .ok (.ireturn, 1) := by decide +kernel
theorem pd_0 : parseMethodDescriptor "([BIII)I" = some ⟨[(.array .byte), .int, .int, .int], some .int⟩ := by decide +kernel
theorem ef_3 (m : MethodId) (a1 : Addr) (p1 : Int32) (p2 : Int32) : entryFrame m #[(.ref a1), (.int p1), (.int p2)] 3 = mkF m 0 #[.val (.ref a1), .val (.int p1), .val (.int p2)] [] := by first | (simp [entryFrame, mkF, argsToLocals, Value.category]; done) | rfl
def Q3 (Z : State) (a1 : Addr) (p1 : Int32) (p2 : Int32) (g : Nat → Int32) (a : Nat) (b : Nat) (h0 : Heap) (n0 : Nat) (v : Option Value) (h : Heap) (L : List Loc) : Prop := v = some (.int (Int32.ofNat (own_com g a b))) ∧ Fr n0 L ∧ h = h0
set_option maxRecDepth 65536 in
set_option maxHeartbeats 40000000 in
theorem rm3 (l : Launch) (Z : State) (a0 : Array Value) (hw : ∀ d ∈ tables_1, d.before a0 Z = true) (ws : List Jvm.Cond) (a1 : Addr) (p1 : Int32) (p2 : Int32) (g : Nat → Int32) (a : Nat) (b : Nat) (h0 : Heap) (n0 : Nat) (Z0 : n0 ≤ h0.size) (V1 : Aw Z h0 a1 .byte 6 (fun i => .int (g i))) (e1 : p1 = Int32.ofNat a) (e2 : p2 = Int32.ofNat b) (ha : a ≤ 6) (hb' : b ≤ 6) :
    MetFree l (⟨"com/example/tallyward/tallyward/io/CsvFieldsLengthPinLaw", "commas", "([BII)I"⟩ : MethodName) (head1 (Jvm.Cond.code (⟨"com/example/tallyward/tallyward/io/CsvFieldsLengthPinLaw", "commas", "([BII)I"⟩ : MethodName) method_4_code 3 (some .int) :: ws) ({ frames := 1, cells := 0, slots := 0, locals := 16 } : Room)) (fun a U => a = #[(.ref a1), (.int p1), (.int p2)] ∧ Z.Warmed39 U.vm ∧ U.heap = h0) (fun _ _ _ _ _ => True) (fun _ U o U' => ∃ v L, o = .returned v ∧ Q3 Z a1 p1 p2 g a b h0 n0 v U'.heap L ∧ FrameEnd U o U' L ({ frames := 1, cells := 0, slots := 0, locals := 16 } : Room).cells ({ frames := 1, cells := 0, slots := 0, locals := 16 } : Room).slots) := by
  refine MetFree.of_bodySF (plainFor_of_name pn_1) hisR ?_
  intro p e s m args below meth c s₁ Bd hml0 hP hK
  obtain ⟨rfl, hZ, hh⟩ := hP
  have hx := Bd.exec
  have hby := Bd.bytes
  have hlk := Bd.notSynchronized
  have hml : c.maxLocals = 3 := hml0
  have hown : s.vm.findClass "com/example/tallyward/tallyward/io/CsvFieldsLengthPinLaw" = some m.cls := findClass_of_methodNamed Bd.named
  have hnm := (name_of_methodNamed Bd.named Bd.method).1
  have X0 : Stand p l e ({ frames := 1, cells := 0, slots := 0, locals := 16 } : Room) s m #[(.ref a1), (.int p1), (.int p2)] below meth c s₁ [] 0 0 := Stand.of_body Bd
  have e0 : s₁.heap = h0 := by rw [← hh, Bd.state]; rfl
  have N0 := Fr.nil n0
  show Goes p e below s 0 0 (Q3 Z a1 p1 p2 g a b h0 n0) s₁ (entryFrame m #[(.ref a1), (.int p1), (.int p2)] 3)
  refine goEq (ef_3 m a1 p1 p2) ?_
  refine go (T' := s₁) (g' := (mkF m 1 #[.val (.ref a1), .val (.int p1), .val (.int p2)] [(.ref a1)])) (fun t kt => XS.aloadN X0.here hx rfl (hb hby d3_0) rfl rfl kt) ?_
  refine go (T' := s₁) (g' := (mkF m 2 #[.val (.ref a1), .val (.int p1), .val (.int p2)] [(.int (0 : Int32)), (.ref a1)])) (fun t kt => XS.iconst X0.here hx rfl (hb hby d3_1) kt) ?_
  refine go (T' := s₁) (g' := (mkF m 3 #[.val (.ref a1), .val (.int p1), .val (.int p2)] [(.int p1), (.int (0 : Int32)), (.ref a1)])) (fun t kt => XS.iloadN X0.here hx rfl (hb hby d3_2) rfl kt) ?_
  refine go (T' := s₁) (g' := (mkF m 4 #[.val (.ref a1), .val (.int p1), .val (.int p2)] [(.int p2), (.int p1), (.int (0 : Int32)), (.ref a1)])) (fun t kt => XS.iloadN X0.here hx rfl (hb hby d3_3) rfl kt) ?_
  obtain ⟨_, _, ⟨T1001, L1001, k1001, n1001⟩, -, X1001, ⟨Lc1001, hQ1001, l1001, y1001, z1001⟩, st1001⟩ := Jvm.LawKit.callS X0 hx (y := (⟨"com/example/tallyward/tallyward/io/CsvFieldsLengthPinLaw", "at", "([BIII)I"⟩ : MethodName)) hown (mvT hZ (hw _ (List.mem_of_getElem? (i := 13) rfl))) (mvT hZ (hw _ (List.mem_of_getElem? (i := 14) rfl))) (mvT hZ (hw _ (List.mem_of_getElem? (i := 3) rfl))) (mvT hZ (hw _ (List.mem_of_getElem? (i := 15) rfl))) (by decide) (backOf (W := 0) (rm4 l Z a0 hw [] a1 (0 : Int32) p1 p2 g 0 a b h0 n0 Z0 V1 rfl e1 e2 (by omega) ha hb') hZ (hw _ (List.mem_of_getElem? (i := 15) rfl)) (hw _ (List.mem_of_getElem? (i := 3) rfl)) (by decide) (by decide)) (g := (mkF m 4 #[.val (.ref a1), .val (.int p1), .val (.int p2)] [(.int p2), (.int p1), (.int (0 : Int32)), (.ref a1)])) rfl (by rw [hml]; rfl) (argsL := [(.ref a1), (.int (0 : Int32)), (.int p1), (.int p2)]) (rest := []) (lenOf pd_0 rfl) rfl (by show 2 * 0 + _ ≤ _; exact Nat.le_of_eq rfl) (hb hby d3_4) (fun _ _ => ⟨rfl, e0, (by decide : 0 + 0 ≤ _), (by decide : 0 + 0 ≤ _)⟩)
  dsimp only [Pt.U, Pt.locs, Pt.cells, Pt.slots] at X1001 l1001 y1001 z1001 st1001 hQ1001
  subst l1001 y1001 z1001
  obtain ⟨rfl, N1001q, e1001⟩ := hQ1001
  have N1001 := Fr.app N0 N1001q
  refine go (T' := T1001) (g' := (mkF m 7 #[.val (.ref a1), .val (.int p1), .val (.int p2)] [(.int (Int32.ofNat (own_at g 0 a b)))])) st1001 ?_
  refine go (T' := T1001) (g' := (mkF m 8 #[.val (.ref a1), .val (.int p1), .val (.int p2)] [(.ref a1), (.int (Int32.ofNat (own_at g 0 a b)))])) (fun t kt => XS.aloadN X1001.here hx rfl (hb hby d3_7) rfl rfl kt) ?_
  refine go (T' := T1001) (g' := (mkF m 9 #[.val (.ref a1), .val (.int p1), .val (.int p2)] [(.int (1 : Int32)), (.ref a1), (.int (Int32.ofNat (own_at g 0 a b)))])) (fun t kt => XS.iconst X1001.here hx rfl (hb hby d3_8) kt) ?_
  refine go (T' := T1001) (g' := (mkF m 10 #[.val (.ref a1), .val (.int p1), .val (.int p2)] [(.int p1), (.int (1 : Int32)), (.ref a1), (.int (Int32.ofNat (own_at g 0 a b)))])) (fun t kt => XS.iloadN X1001.here hx rfl (hb hby d3_9) rfl kt) ?_
  refine go (T' := T1001) (g' := (mkF m 11 #[.val (.ref a1), .val (.int p1), .val (.int p2)] [(.int p2), (.int p1), (.int (1 : Int32)), (.ref a1), (.int (Int32.ofNat (own_at g 0 a b)))])) (fun t kt => XS.iloadN X1001.here hx rfl (hb hby d3_10) rfl kt) ?_
  obtain ⟨_, _, ⟨T1002, L1002, k1002, n1002⟩, -, X1002, ⟨Lc1002, hQ1002, l1002, y1002, z1002⟩, st1002⟩ := Jvm.LawKit.callS X1001 hx (y := (⟨"com/example/tallyward/tallyward/io/CsvFieldsLengthPinLaw", "at", "([BIII)I"⟩ : MethodName)) hown (mvT hZ (hw _ (List.mem_of_getElem? (i := 13) rfl))) (mvT hZ (hw _ (List.mem_of_getElem? (i := 14) rfl))) (mvT hZ (hw _ (List.mem_of_getElem? (i := 3) rfl))) (mvT hZ (hw _ (List.mem_of_getElem? (i := 15) rfl))) (by decide) (backOf (W := 1) (rm4 l Z a0 hw [] a1 (1 : Int32) p1 p2 g 1 a b h0 n0 Z0 V1 rfl e1 e2 (by omega) ha hb') hZ (hw _ (List.mem_of_getElem? (i := 15) rfl)) (hw _ (List.mem_of_getElem? (i := 3) rfl)) (by decide) (by decide)) (g := (mkF m 11 #[.val (.ref a1), .val (.int p1), .val (.int p2)] [(.int p2), (.int p1), (.int (1 : Int32)), (.ref a1), (.int (Int32.ofNat (own_at g 0 a b)))])) rfl (by rw [hml]; rfl) (argsL := [(.ref a1), (.int (1 : Int32)), (.int p1), (.int p2)]) (rest := [(.int (Int32.ofNat (own_at g 0 a b)))]) (lenOf pd_0 rfl) rfl (by show 2 * 0 + _ ≤ _; exact Nat.le_of_eq rfl) (hb hby d3_11) (fun _ _ => ⟨rfl, e1001, (by decide : 0 + 0 ≤ _), (by decide : 0 + 0 ≤ _)⟩)
  dsimp only [Pt.U, Pt.locs, Pt.cells, Pt.slots] at X1002 l1002 y1002 z1002 st1002 hQ1002
  subst l1002 y1002 z1002
  obtain ⟨rfl, N1002q, e1002⟩ := hQ1002
  have N1002 := Fr.app N1001 N1002q
  refine go (T' := T1002) (g' := (mkF m 14 #[.val (.ref a1), .val (.int p1), .val (.int p2)] [(.int (Int32.ofNat (own_at g 1 a b))), (.int (Int32.ofNat (own_at g 0 a b)))])) st1002 ?_
  refine go (T' := T1002) (g' := (mkF m 15 #[.val (.ref a1), .val (.int p1), .val (.int p2)] [(.int ((Int32.ofNat (own_at g 0 a b)) + (Int32.ofNat (own_at g 1 a b))))])) (fun t kt => XS.iadd X1002.here hx rfl (hb hby d3_14) rfl kt) ?_
  refine go (T' := T1002) (g' := (mkF m 16 #[.val (.ref a1), .val (.int p1), .val (.int p2)] [(.ref a1), (.int ((Int32.ofNat (own_at g 0 a b)) + (Int32.ofNat (own_at g 1 a b))))])) (fun t kt => XS.aloadN X1002.here hx rfl (hb hby d3_15) rfl rfl kt) ?_
  refine go (T' := T1002) (g' := (mkF m 17 #[.val (.ref a1), .val (.int p1), .val (.int p2)] [(.int (2 : Int32)), (.ref a1), (.int ((Int32.ofNat (own_at g 0 a b)) + (Int32.ofNat (own_at g 1 a b))))])) (fun t kt => XS.iconst X1002.here hx rfl (hb hby d3_16) kt) ?_
  refine go (T' := T1002) (g' := (mkF m 18 #[.val (.ref a1), .val (.int p1), .val (.int p2)] [(.int p1), (.int (2 : Int32)), (.ref a1), (.int ((Int32.ofNat (own_at g 0 a b)) + (Int32.ofNat (own_at g 1 a b))))])) (fun t kt => XS.iloadN X1002.here hx rfl (hb hby d3_17) rfl kt) ?_
  refine go (T' := T1002) (g' := (mkF m 19 #[.val (.ref a1), .val (.int p1), .val (.int p2)] [(.int p2), (.int p1), (.int (2 : Int32)), (.ref a1), (.int ((Int32.ofNat (own_at g 0 a b)) + (Int32.ofNat (own_at g 1 a b))))])) (fun t kt => XS.iloadN X1002.here hx rfl (hb hby d3_18) rfl kt) ?_
  obtain ⟨_, _, ⟨T1003, L1003, k1003, n1003⟩, -, X1003, ⟨Lc1003, hQ1003, l1003, y1003, z1003⟩, st1003⟩ := Jvm.LawKit.callS X1002 hx (y := (⟨"com/example/tallyward/tallyward/io/CsvFieldsLengthPinLaw", "at", "([BIII)I"⟩ : MethodName)) hown (mvT hZ (hw _ (List.mem_of_getElem? (i := 13) rfl))) (mvT hZ (hw _ (List.mem_of_getElem? (i := 14) rfl))) (mvT hZ (hw _ (List.mem_of_getElem? (i := 3) rfl))) (mvT hZ (hw _ (List.mem_of_getElem? (i := 15) rfl))) (by decide) (backOf (W := 1) (rm4 l Z a0 hw [] a1 (2 : Int32) p1 p2 g 2 a b h0 n0 Z0 V1 rfl e1 e2 (by omega) ha hb') hZ (hw _ (List.mem_of_getElem? (i := 15) rfl)) (hw _ (List.mem_of_getElem? (i := 3) rfl)) (by decide) (by decide)) (g := (mkF m 19 #[.val (.ref a1), .val (.int p1), .val (.int p2)] [(.int p2), (.int p1), (.int (2 : Int32)), (.ref a1), (.int ((Int32.ofNat (own_at g 0 a b)) + (Int32.ofNat (own_at g 1 a b))))])) rfl (by rw [hml]; rfl) (argsL := [(.ref a1), (.int (2 : Int32)), (.int p1), (.int p2)]) (rest := [(.int ((Int32.ofNat (own_at g 0 a b)) + (Int32.ofNat (own_at g 1 a b))))]) (lenOf pd_0 rfl) rfl (by show 2 * 0 + _ ≤ _; exact Nat.le_of_eq rfl) (hb hby d3_19) (fun _ _ => ⟨rfl, e1002, (by decide : 0 + 0 ≤ _), (by decide : 0 + 0 ≤ _)⟩)
  dsimp only [Pt.U, Pt.locs, Pt.cells, Pt.slots] at X1003 l1003 y1003 z1003 st1003 hQ1003
  subst l1003 y1003 z1003
  obtain ⟨rfl, N1003q, e1003⟩ := hQ1003
  have N1003 := Fr.app N1002 N1003q
  refine go (T' := T1003) (g' := (mkF m 22 #[.val (.ref a1), .val (.int p1), .val (.int p2)] [(.int (Int32.ofNat (own_at g 2 a b))), (.int ((Int32.ofNat (own_at g 0 a b)) + (Int32.ofNat (own_at g 1 a b))))])) st1003 ?_
  refine go (T' := T1003) (g' := (mkF m 23 #[.val (.ref a1), .val (.int p1), .val (.int p2)] [(.int (((Int32.ofNat (own_at g 0 a b)) + (Int32.ofNat (own_at g 1 a b))) + (Int32.ofNat (own_at g 2 a b))))])) (fun t kt => XS.iadd X1003.here hx rfl (hb hby d3_22) rfl kt) ?_
  refine go (T' := T1003) (g' := (mkF m 24 #[.val (.ref a1), .val (.int p1), .val (.int p2)] [(.ref a1), (.int (((Int32.ofNat (own_at g 0 a b)) + (Int32.ofNat (own_at g 1 a b))) + (Int32.ofNat (own_at g 2 a b))))])) (fun t kt => XS.aloadN X1003.here hx rfl (hb hby d3_23) rfl rfl kt) ?_
  refine go (T' := T1003) (g' := (mkF m 25 #[.val (.ref a1), .val (.int p1), .val (.int p2)] [(.int (3 : Int32)), (.ref a1), (.int (((Int32.ofNat (own_at g 0 a b)) + (Int32.ofNat (own_at g 1 a b))) + (Int32.ofNat (own_at g 2 a b))))])) (fun t kt => XS.iconst X1003.here hx rfl (hb hby d3_24) kt) ?_
  refine go (T' := T1003) (g' := (mkF m 26 #[.val (.ref a1), .val (.int p1), .val (.int p2)] [(.int p1), (.int (3 : Int32)), (.ref a1), (.int (((Int32.ofNat (own_at g 0 a b)) + (Int32.ofNat (own_at g 1 a b))) + (Int32.ofNat (own_at g 2 a b))))])) (fun t kt => XS.iloadN X1003.here hx rfl (hb hby d3_25) rfl kt) ?_
  refine go (T' := T1003) (g' := (mkF m 27 #[.val (.ref a1), .val (.int p1), .val (.int p2)] [(.int p2), (.int p1), (.int (3 : Int32)), (.ref a1), (.int (((Int32.ofNat (own_at g 0 a b)) + (Int32.ofNat (own_at g 1 a b))) + (Int32.ofNat (own_at g 2 a b))))])) (fun t kt => XS.iloadN X1003.here hx rfl (hb hby d3_26) rfl kt) ?_
  obtain ⟨_, _, ⟨T1004, L1004, k1004, n1004⟩, -, X1004, ⟨Lc1004, hQ1004, l1004, y1004, z1004⟩, st1004⟩ := Jvm.LawKit.callS X1003 hx (y := (⟨"com/example/tallyward/tallyward/io/CsvFieldsLengthPinLaw", "at", "([BIII)I"⟩ : MethodName)) hown (mvT hZ (hw _ (List.mem_of_getElem? (i := 13) rfl))) (mvT hZ (hw _ (List.mem_of_getElem? (i := 14) rfl))) (mvT hZ (hw _ (List.mem_of_getElem? (i := 3) rfl))) (mvT hZ (hw _ (List.mem_of_getElem? (i := 15) rfl))) (by decide) (backOf (W := 1) (rm4 l Z a0 hw [] a1 (3 : Int32) p1 p2 g 3 a b h0 n0 Z0 V1 rfl e1 e2 (by omega) ha hb') hZ (hw _ (List.mem_of_getElem? (i := 15) rfl)) (hw _ (List.mem_of_getElem? (i := 3) rfl)) (by decide) (by decide)) (g := (mkF m 27 #[.val (.ref a1), .val (.int p1), .val (.int p2)] [(.int p2), (.int p1), (.int (3 : Int32)), (.ref a1), (.int (((Int32.ofNat (own_at g 0 a b)) + (Int32.ofNat (own_at g 1 a b))) + (Int32.ofNat (own_at g 2 a b))))])) rfl (by rw [hml]; rfl) (argsL := [(.ref a1), (.int (3 : Int32)), (.int p1), (.int p2)]) (rest := [(.int (((Int32.ofNat (own_at g 0 a b)) + (Int32.ofNat (own_at g 1 a b))) + (Int32.ofNat (own_at g 2 a b))))]) (lenOf pd_0 rfl) rfl (by show 2 * 0 + _ ≤ _; exact Nat.le_of_eq rfl) (hb hby d3_27) (fun _ _ => ⟨rfl, e1003, (by decide : 0 + 0 ≤ _), (by decide : 0 + 0 ≤ _)⟩)
  dsimp only [Pt.U, Pt.locs, Pt.cells, Pt.slots] at X1004 l1004 y1004 z1004 st1004 hQ1004
  subst l1004 y1004 z1004
  obtain ⟨rfl, N1004q, e1004⟩ := hQ1004
  have N1004 := Fr.app N1003 N1004q
  refine go (T' := T1004) (g' := (mkF m 30 #[.val (.ref a1), .val (.int p1), .val (.int p2)] [(.int (Int32.ofNat (own_at g 3 a b))), (.int (((Int32.ofNat (own_at g 0 a b)) + (Int32.ofNat (own_at g 1 a b))) + (Int32.ofNat (own_at g 2 a b))))])) st1004 ?_
  refine go (T' := T1004) (g' := (mkF m 31 #[.val (.ref a1), .val (.int p1), .val (.int p2)] [(.int ((((Int32.ofNat (own_at g 0 a b)) + (Int32.ofNat (own_at g 1 a b))) + (Int32.ofNat (own_at g 2 a b))) + (Int32.ofNat (own_at g 3 a b))))])) (fun t kt => XS.iadd X1004.here hx rfl (hb hby d3_30) rfl kt) ?_
  refine go (T' := T1004) (g' := (mkF m 32 #[.val (.ref a1), .val (.int p1), .val (.int p2)] [(.ref a1), (.int ((((Int32.ofNat (own_at g 0 a b)) + (Int32.ofNat (own_at g 1 a b))) + (Int32.ofNat (own_at g 2 a b))) + (Int32.ofNat (own_at g 3 a b))))])) (fun t kt => XS.aloadN X1004.here hx rfl (hb hby d3_31) rfl rfl kt) ?_
  refine go (T' := T1004) (g' := (mkF m 33 #[.val (.ref a1), .val (.int p1), .val (.int p2)] [(.int (4 : Int32)), (.ref a1), (.int ((((Int32.ofNat (own_at g 0 a b)) + (Int32.ofNat (own_at g 1 a b))) + (Int32.ofNat (own_at g 2 a b))) + (Int32.ofNat (own_at g 3 a b))))])) (fun t kt => XS.iconst X1004.here hx rfl (hb hby d3_32) kt) ?_
  refine go (T' := T1004) (g' := (mkF m 34 #[.val (.ref a1), .val (.int p1), .val (.int p2)] [(.int p1), (.int (4 : Int32)), (.ref a1), (.int ((((Int32.ofNat (own_at g 0 a b)) + (Int32.ofNat (own_at g 1 a b))) + (Int32.ofNat (own_at g 2 a b))) + (Int32.ofNat (own_at g 3 a b))))])) (fun t kt => XS.iloadN X1004.here hx rfl (hb hby d3_33) rfl kt) ?_
  refine go (T' := T1004) (g' := (mkF m 35 #[.val (.ref a1), .val (.int p1), .val (.int p2)] [(.int p2), (.int p1), (.int (4 : Int32)), (.ref a1), (.int ((((Int32.ofNat (own_at g 0 a b)) + (Int32.ofNat (own_at g 1 a b))) + (Int32.ofNat (own_at g 2 a b))) + (Int32.ofNat (own_at g 3 a b))))])) (fun t kt => XS.iloadN X1004.here hx rfl (hb hby d3_34) rfl kt) ?_
  obtain ⟨_, _, ⟨T1005, L1005, k1005, n1005⟩, -, X1005, ⟨Lc1005, hQ1005, l1005, y1005, z1005⟩, st1005⟩ := Jvm.LawKit.callS X1004 hx (y := (⟨"com/example/tallyward/tallyward/io/CsvFieldsLengthPinLaw", "at", "([BIII)I"⟩ : MethodName)) hown (mvT hZ (hw _ (List.mem_of_getElem? (i := 13) rfl))) (mvT hZ (hw _ (List.mem_of_getElem? (i := 14) rfl))) (mvT hZ (hw _ (List.mem_of_getElem? (i := 3) rfl))) (mvT hZ (hw _ (List.mem_of_getElem? (i := 15) rfl))) (by decide) (backOf (W := 1) (rm4 l Z a0 hw [] a1 (4 : Int32) p1 p2 g 4 a b h0 n0 Z0 V1 rfl e1 e2 (by omega) ha hb') hZ (hw _ (List.mem_of_getElem? (i := 15) rfl)) (hw _ (List.mem_of_getElem? (i := 3) rfl)) (by decide) (by decide)) (g := (mkF m 35 #[.val (.ref a1), .val (.int p1), .val (.int p2)] [(.int p2), (.int p1), (.int (4 : Int32)), (.ref a1), (.int ((((Int32.ofNat (own_at g 0 a b)) + (Int32.ofNat (own_at g 1 a b))) + (Int32.ofNat (own_at g 2 a b))) + (Int32.ofNat (own_at g 3 a b))))])) rfl (by rw [hml]; rfl) (argsL := [(.ref a1), (.int (4 : Int32)), (.int p1), (.int p2)]) (rest := [(.int ((((Int32.ofNat (own_at g 0 a b)) + (Int32.ofNat (own_at g 1 a b))) + (Int32.ofNat (own_at g 2 a b))) + (Int32.ofNat (own_at g 3 a b))))]) (lenOf pd_0 rfl) rfl (by show 2 * 0 + _ ≤ _; exact Nat.le_of_eq rfl) (hb hby d3_35) (fun _ _ => ⟨rfl, e1004, (by decide : 0 + 0 ≤ _), (by decide : 0 + 0 ≤ _)⟩)
  dsimp only [Pt.U, Pt.locs, Pt.cells, Pt.slots] at X1005 l1005 y1005 z1005 st1005 hQ1005
  subst l1005 y1005 z1005
  obtain ⟨rfl, N1005q, e1005⟩ := hQ1005
  have N1005 := Fr.app N1004 N1005q
  refine go (T' := T1005) (g' := (mkF m 38 #[.val (.ref a1), .val (.int p1), .val (.int p2)] [(.int (Int32.ofNat (own_at g 4 a b))), (.int ((((Int32.ofNat (own_at g 0 a b)) + (Int32.ofNat (own_at g 1 a b))) + (Int32.ofNat (own_at g 2 a b))) + (Int32.ofNat (own_at g 3 a b))))])) st1005 ?_
  refine go (T' := T1005) (g' := (mkF m 39 #[.val (.ref a1), .val (.int p1), .val (.int p2)] [(.int (((((Int32.ofNat (own_at g 0 a b)) + (Int32.ofNat (own_at g 1 a b))) + (Int32.ofNat (own_at g 2 a b))) + (Int32.ofNat (own_at g 3 a b))) + (Int32.ofNat (own_at g 4 a b))))])) (fun t kt => XS.iadd X1005.here hx rfl (hb hby d3_38) rfl kt) ?_
  refine go (T' := T1005) (g' := (mkF m 40 #[.val (.ref a1), .val (.int p1), .val (.int p2)] [(.ref a1), (.int (((((Int32.ofNat (own_at g 0 a b)) + (Int32.ofNat (own_at g 1 a b))) + (Int32.ofNat (own_at g 2 a b))) + (Int32.ofNat (own_at g 3 a b))) + (Int32.ofNat (own_at g 4 a b))))])) (fun t kt => XS.aloadN X1005.here hx rfl (hb hby d3_39) rfl rfl kt) ?_
  refine go (T' := T1005) (g' := (mkF m 41 #[.val (.ref a1), .val (.int p1), .val (.int p2)] [(.int (5 : Int32)), (.ref a1), (.int (((((Int32.ofNat (own_at g 0 a b)) + (Int32.ofNat (own_at g 1 a b))) + (Int32.ofNat (own_at g 2 a b))) + (Int32.ofNat (own_at g 3 a b))) + (Int32.ofNat (own_at g 4 a b))))])) (fun t kt => XS.iconst X1005.here hx rfl (hb hby d3_40) kt) ?_
  refine go (T' := T1005) (g' := (mkF m 42 #[.val (.ref a1), .val (.int p1), .val (.int p2)] [(.int p1), (.int (5 : Int32)), (.ref a1), (.int (((((Int32.ofNat (own_at g 0 a b)) + (Int32.ofNat (own_at g 1 a b))) + (Int32.ofNat (own_at g 2 a b))) + (Int32.ofNat (own_at g 3 a b))) + (Int32.ofNat (own_at g 4 a b))))])) (fun t kt => XS.iloadN X1005.here hx rfl (hb hby d3_41) rfl kt) ?_
  refine go (T' := T1005) (g' := (mkF m 43 #[.val (.ref a1), .val (.int p1), .val (.int p2)] [(.int p2), (.int p1), (.int (5 : Int32)), (.ref a1), (.int (((((Int32.ofNat (own_at g 0 a b)) + (Int32.ofNat (own_at g 1 a b))) + (Int32.ofNat (own_at g 2 a b))) + (Int32.ofNat (own_at g 3 a b))) + (Int32.ofNat (own_at g 4 a b))))])) (fun t kt => XS.iloadN X1005.here hx rfl (hb hby d3_42) rfl kt) ?_
  obtain ⟨_, _, ⟨T1006, L1006, k1006, n1006⟩, -, X1006, ⟨Lc1006, hQ1006, l1006, y1006, z1006⟩, st1006⟩ := Jvm.LawKit.callS X1005 hx (y := (⟨"com/example/tallyward/tallyward/io/CsvFieldsLengthPinLaw", "at", "([BIII)I"⟩ : MethodName)) hown (mvT hZ (hw _ (List.mem_of_getElem? (i := 13) rfl))) (mvT hZ (hw _ (List.mem_of_getElem? (i := 14) rfl))) (mvT hZ (hw _ (List.mem_of_getElem? (i := 3) rfl))) (mvT hZ (hw _ (List.mem_of_getElem? (i := 15) rfl))) (by decide) (backOf (W := 1) (rm4 l Z a0 hw [] a1 (5 : Int32) p1 p2 g 5 a b h0 n0 Z0 V1 rfl e1 e2 (by omega) ha hb') hZ (hw _ (List.mem_of_getElem? (i := 15) rfl)) (hw _ (List.mem_of_getElem? (i := 3) rfl)) (by decide) (by decide)) (g := (mkF m 43 #[.val (.ref a1), .val (.int p1), .val (.int p2)] [(.int p2), (.int p1), (.int (5 : Int32)), (.ref a1), (.int (((((Int32.ofNat (own_at g 0 a b)) + (Int32.ofNat (own_at g 1 a b))) + (Int32.ofNat (own_at g 2 a b))) + (Int32.ofNat (own_at g 3 a b))) + (Int32.ofNat (own_at g 4 a b))))])) rfl (by rw [hml]; rfl) (argsL := [(.ref a1), (.int (5 : Int32)), (.int p1), (.int p2)]) (rest := [(.int (((((Int32.ofNat (own_at g 0 a b)) + (Int32.ofNat (own_at g 1 a b))) + (Int32.ofNat (own_at g 2 a b))) + (Int32.ofNat (own_at g 3 a b))) + (Int32.ofNat (own_at g 4 a b))))]) (lenOf pd_0 rfl) rfl (by show 2 * 0 + _ ≤ _; exact Nat.le_of_eq rfl) (hb hby d3_43) (fun _ _ => ⟨rfl, e1005, (by decide : 0 + 0 ≤ _), (by decide : 0 + 0 ≤ _)⟩)
  dsimp only [Pt.U, Pt.locs, Pt.cells, Pt.slots] at X1006 l1006 y1006 z1006 st1006 hQ1006
  subst l1006 y1006 z1006
  obtain ⟨rfl, N1006q, e1006⟩ := hQ1006
  have N1006 := Fr.app N1005 N1006q
  refine go (T' := T1006) (g' := (mkF m 46 #[.val (.ref a1), .val (.int p1), .val (.int p2)] [(.int (Int32.ofNat (own_at g 5 a b))), (.int (((((Int32.ofNat (own_at g 0 a b)) + (Int32.ofNat (own_at g 1 a b))) + (Int32.ofNat (own_at g 2 a b))) + (Int32.ofNat (own_at g 3 a b))) + (Int32.ofNat (own_at g 4 a b))))])) st1006 ?_
  refine go (T' := T1006) (g' := (mkF m 47 #[.val (.ref a1), .val (.int p1), .val (.int p2)] [(.int ((((((Int32.ofNat (own_at g 0 a b)) + (Int32.ofNat (own_at g 1 a b))) + (Int32.ofNat (own_at g 2 a b))) + (Int32.ofNat (own_at g 3 a b))) + (Int32.ofNat (own_at g 4 a b))) + (Int32.ofNat (own_at g 5 a b))))])) (fun t kt => XS.iadd X1006.here hx rfl (hb hby d3_46) rfl kt) ?_
  refine goRetI X1006 hx hlk Bd.returns (hb hby d3_47) ?_ (by decide) (by decide)
  rw [e1006]
  exact ⟨by simp only [own_com, nn_add], N1006, rfl⟩
theorem d2_0 : decode prog_33_method_16_code 0 = .ok (.iconst 0, 1) := by decide +kernel
theorem d2_1 : decode prog_33_method_16_code 1 = .ok (.istore 4, 2) := by decide +kernel
theorem d2_3 : decode prog_33_method_16_code 3 = .ok (.iload_n 1, 1) := by decide +kernel
theorem d2_4 : decode prog_33_method_16_code 4 = .ok (.istore 5, 2) := by decide +kernel
theorem d2_6 : decode prog_33_method_16_code 6 = .ok (.iload 5, 2) := by decide +kernel
theorem d2_8 : decode prog_33_method_16_code 8 = .ok (.iload_n 2, 1) := by decide +kernel
theorem d2_9 : decode prog_33_method_16_code 9 = .ok (.if_icmp .ge 34, 3) := by decide +kernel
theorem d2_12 : decode prog_33_method_16_code 12 = .ok (.aload_n 0, 1) := by decide +kernel
theorem d2_13 : decode prog_33_method_16_code 13 = .ok (.iload 5, 2) := by decide +kernel
theorem d2_15 : decode prog_33_method_16_code 15 = .ok (.baload, 1) := by decide +kernel
theorem d2_16 : decode prog_33_method_16_code 16 = .ok (.bipush 44, 2) := by decide +kernel
theorem d2_18 : decode prog_33_method_16_code 18 = .ok (.if_icmp .ne 19, 3) := by decide +kernel
theorem d2_21 : decode prog_33_method_16_code 21 = .ok (.iinc 4 1, 3) := by decide +kernel
theorem d2_24 : decode prog_33_method_16_code 24 = .ok (.iload 4, 2) := by decide +kernel
theorem d2_26 : decode prog_33_method_16_code 26 = .ok (.iload_n 3, 1) := by decide +kernel
theorem d2_27 : decode prog_33_method_16_code 27 = .ok (.if_icmp .ne 10, 3) := by decide +kernel
theorem d2_30 : decode prog_33_method_16_code 30 = .ok (.iload 5, 2) := by decide +kernel
theorem d2_32 : decode prog_33_method_16_code 32 = .ok (.iconst 1, 1) := by decide +kernel
theorem d2_33 : decode prog_33_method_16_code 33 = .ok (.iadd, 1) := by decide +kernel
theorem d2_34 : decode prog_33_method_16_code 34 = .ok (.iload_n 1, 1) := by decide +kernel
theorem d2_35 : decode prog_33_method_16_code 35 = .ok (.isub, 1) := by decide +kernel
theorem d2_36 : decode prog_33_method_16_code 36 = .ok (.ireturn, 1) := by decide +kernel
theorem d2_37 : decode prog_33_method_16_code 37 = .ok (.iinc 5 1, 3) := by decide +kernel
theorem d2_40 : decode prog_33_method_16_code 40 = .ok (.goto (-34), 3) := by decide +kernel
theorem d2_43 : decode prog_33_method_16_code 43 = .ok (.iload_n 2, 1) := by decide +kernel
theorem d2_44 : decode prog_33_method_16_code 44 = .ok (.iload_n 1, 1) := by decide +kernel
theorem d2_45 : decode prog_33_method_16_code 45 = .ok (.isub, 1) := by decide +kernel
theorem d2_46 : decode prog_33_method_16_code 46 = .ok (.ireturn, 1) := by decide +kernel
theorem pn_2 : plainName "com/example/tallyward/tallyward/io/Csv" = true := by first | (simp [plainName, overriddenIn]; done) | decide +kernel
theorem ef_2 (m : MethodId) (a1 : Addr) (p1 : Int32) (p2 : Int32) (p3 : Int32) : entryFrame m #[(.ref a1), (.int p1), (.int p2), (.int p3)] 6 = mkF m 0 #[.val (.ref a1), .val (.int p1), .val (.int p2), .val (.int p3), .unset, .unset] [] := by first | (simp [entryFrame, mkF, argsToLocals, Value.category]; done) | rfl
def Q2 (Z : State) (a1 : Addr) (p1 : Int32) (p2 : Int32) (p3 : Int32) (g : Nat → Int32) (a : Nat) (b : Nat) (q : Nat) (h0 : Heap) (n0 : Nat) (v : Option Value) (h : Heap) (L : List Loc) : Prop := v = some (.int (Int32.ofNat (own_fl g q (b - a) a 0 - a))) ∧ Fr n0 L ∧ h = h0
set_option maxRecDepth 65536 in
set_option maxHeartbeats 40000000 in
theorem rm2 (l : Launch) (Z : State) (a0 : Array Value) (hw : ∀ d ∈ tables_1, d.before a0 Z = true) (ws : List Jvm.Cond) (a1 : Addr) (p1 : Int32) (p2 : Int32) (p3 : Int32) (g : Nat → Int32) (a : Nat) (b : Nat) (q : Nat) (h0 : Heap) (n0 : Nat) (Z0 : n0 ≤ h0.size) (V1 : Aw Z h0 a1 .byte 6 (fun i => .int (g i))) (e1 : p1 = Int32.ofNat a) (e2 : p2 = Int32.ofNat b) (e3 : p3 = Int32.ofNat q) (ha : a ≤ b) (hb' : b ≤ 6) (hq : q ≤ 8) (hq1 : 1 ≤ q) :
    MetFree l (⟨"com/example/tallyward/tallyward/io/Csv", "fieldsLength", "([BIII)I"⟩ : MethodName) (head1 (Jvm.Cond.code (⟨"com/example/tallyward/tallyward/io/Csv", "fieldsLength", "([BIII)I"⟩ : MethodName) prog_33_method_16_code 6 (some .int) :: ws) ({ frames := 0, cells := 0, slots := 0, locals := 0 } : Room)) (fun a U => a = #[(.ref a1), (.int p1), (.int p2), (.int p3)] ∧ Z.Warmed39 U.vm ∧ U.heap = h0) (fun _ _ _ _ _ => True) (fun _ U o U' => ∃ v L, o = .returned v ∧ Q2 Z a1 p1 p2 p3 g a b q h0 n0 v U'.heap L ∧ FrameEnd U o U' L ({ frames := 0, cells := 0, slots := 0, locals := 0 } : Room).cells ({ frames := 0, cells := 0, slots := 0, locals := 0 } : Room).slots) := by
  refine MetFree.of_bodySF (plainFor_of_name pn_2) hisR ?_
  intro p e s m args below meth c s₁ Bd hml0 hP hK
  obtain ⟨rfl, hZ, hh⟩ := hP
  have hx := Bd.exec
  have hby := Bd.bytes
  have hlk := Bd.notSynchronized
  have hml : c.maxLocals = 6 := hml0
  have hown : s.vm.findClass "com/example/tallyward/tallyward/io/Csv" = some m.cls := findClass_of_methodNamed Bd.named
  have hnm := (name_of_methodNamed Bd.named Bd.method).1
  have X0 : Stand p l e ({ frames := 0, cells := 0, slots := 0, locals := 0 } : Room) s m #[(.ref a1), (.int p1), (.int p2), (.int p3)] below meth c s₁ [] 0 0 := Stand.of_body Bd
  have e0 : s₁.heap = h0 := by rw [← hh, Bd.state]; rfl
  have N0 := Fr.nil n0
  show Goes p e below s 0 0 (Q2 Z a1 p1 p2 p3 g a b q h0 n0) s₁ (entryFrame m #[(.ref a1), (.int p1), (.int p2), (.int p3)] 6)
  refine goEq (ef_2 m a1 p1 p2 p3) ?_
  refine goEq (g' := (mkF m 0 #[.val (.ref a1), .val (.int (Int32.ofNat a)), .val (.int p2), .val (.int p3), .unset, .unset] [])) (by rw [e1]) ?_
  refine goEq (g' := (mkF m 0 #[.val (.ref a1), .val (.int (Int32.ofNat a)), .val (.int (Int32.ofNat b)), .val (.int p3), .unset, .unset] [])) (by rw [e2]) ?_
  refine goEq (g' := (mkF m 0 #[.val (.ref a1), .val (.int (Int32.ofNat a)), .val (.int (Int32.ofNat b)), .val (.int (Int32.ofNat q)), .unset, .unset] [])) (by rw [e3]) ?_
  refine go (T' := s₁) (g' := (mkF m 1 #[.val (.ref a1), .val (.int (Int32.ofNat a)), .val (.int (Int32.ofNat b)), .val (.int (Int32.ofNat q)), .unset, .unset] [(.int (0 : Int32))])) (fun t kt => XS.iconst X0.here hx rfl (hb hby d2_0) kt) ?_
  refine go (T' := s₁) (g' := (mkF m 3 #[.val (.ref a1), .val (.int (Int32.ofNat a)), .val (.int (Int32.ofNat b)), .val (.int (Int32.ofNat q)), .val (.int (0 : Int32)), .unset] [])) (fun t kt => XS.istore X0.here hx rfl (hb hby d2_1) rfl (l' := #[.val (.ref a1), .val (.int (Int32.ofNat a)), .val (.int (Int32.ofNat b)), .val (.int (Int32.ofNat q)), .val (.int (0 : Int32)), .unset]) rfl kt) ?_
  refine go (T' := s₁) (g' := (mkF m 4 #[.val (.ref a1), .val (.int (Int32.ofNat a)), .val (.int (Int32.ofNat b)), .val (.int (Int32.ofNat q)), .val (.int (0 : Int32)), .unset] [(.int (Int32.ofNat a))])) (fun t kt => XS.iloadN X0.here hx rfl (hb hby d2_3) rfl kt) ?_
  refine go (T' := s₁) (g' := (mkF m 6 #[.val (.ref a1), .val (.int (Int32.ofNat a)), .val (.int (Int32.ofNat b)), .val (.int (Int32.ofNat q)), .val (.int (0 : Int32)), .val (.int (Int32.ofNat a))] [])) (fun t kt => XS.istore X0.here hx rfl (hb hby d2_4) rfl (l' := #[.val (.ref a1), .val (.int (Int32.ofNat a)), .val (.int (Int32.ofNat b)), .val (.int (Int32.ofNat q)), .val (.int (0 : Int32)), .val (.int (Int32.ofNat a))]) rfl kt) ?_
  have loop : ∀ (k i j : Nat), a ≤ i → i + k = b → j < q → own_fl g q k i j = own_fl g q (b - a) a 0 → Goes p e below s 0 0 (Q2 Z a1 p1 p2 p3 g a b q h0 n0) s₁ (mkF m 6 #[.val (.ref a1), .val (.int (Int32.ofNat a)), .val (.int (Int32.ofNat b)), .val (.int (Int32.ofNat q)), .val (.int (Int32.ofNat j)), .val (.int (Int32.ofNat i))] []) := by
    intro k
    induction k with
    | zero =>
      intro i j hai hib hj hf
      simp only [own_fl] at hf
      refine go (T' := s₁) (g' := (mkF m 8 #[.val (.ref a1), .val (.int (Int32.ofNat a)), .val (.int (Int32.ofNat b)), .val (.int (Int32.ofNat q)), .val (.int (Int32.ofNat j)), .val (.int (Int32.ofNat i))] [(.int (Int32.ofNat i))])) (fun t kt => XS.iload X0.here hx rfl (hb hby d2_6) rfl kt) ?_
      refine go (T' := s₁) (g' := (mkF m 9 #[.val (.ref a1), .val (.int (Int32.ofNat a)), .val (.int (Int32.ofNat b)), .val (.int (Int32.ofNat q)), .val (.int (Int32.ofNat j)), .val (.int (Int32.ofNat i))] [(.int (Int32.ofNat b)), (.int (Int32.ofNat i))])) (fun t kt => XS.iloadN X0.here hx rfl (hb hby d2_8) rfl kt) ?_
      refine go (T' := s₁) (g' := (mkF m 43 #[.val (.ref a1), .val (.int (Int32.ofNat a)), .val (.int (Int32.ofNat b)), .val (.int (Int32.ofNat q)), .val (.int (Int32.ofNat j)), .val (.int (Int32.ofNat i))] [])) (fun t kt => XS.icmpYes X0.here hx rfl (pc0 := 9) (pc' := 43) rfl (hb hby d2_9) rfl (flt (fun r => by have := (nn_lt (by omega) (by omega)).mp r; omega)).2.1 (by decide) (by decide) kt) ?_
      refine go (T' := s₁) (g' := (mkF m 44 #[.val (.ref a1), .val (.int (Int32.ofNat a)), .val (.int (Int32.ofNat b)), .val (.int (Int32.ofNat q)), .val (.int (Int32.ofNat j)), .val (.int (Int32.ofNat i))] [(.int (Int32.ofNat b))])) (fun t kt => XS.iloadN X0.here hx rfl (hb hby d2_43) rfl kt) ?_
      refine go (T' := s₁) (g' := (mkF m 45 #[.val (.ref a1), .val (.int (Int32.ofNat a)), .val (.int (Int32.ofNat b)), .val (.int (Int32.ofNat q)), .val (.int (Int32.ofNat j)), .val (.int (Int32.ofNat i))] [(.int (Int32.ofNat a)), (.int (Int32.ofNat b))])) (fun t kt => XS.iloadN X0.here hx rfl (hb hby d2_44) rfl kt) ?_
      refine go (T' := s₁) (g' := (mkF m 46 #[.val (.ref a1), .val (.int (Int32.ofNat a)), .val (.int (Int32.ofNat b)), .val (.int (Int32.ofNat q)), .val (.int (Int32.ofNat j)), .val (.int (Int32.ofNat i))] [(.int ((Int32.ofNat b) - (Int32.ofNat a)))])) (fun t kt => XS.isub X0.here hx rfl (hb hby d2_45) rfl kt) ?_
      refine goRetI X0 hx hlk Bd.returns (hb hby d2_46) ?_ (by decide) (by decide)
      rw [e0]
      exact ⟨by rw [← hf, nn_sub (by omega), show i = b by omega], N0, rfl⟩
    | succ k ih =>
      intro i j hai hib hj hf
      simp only [own_fl] at hf
      refine go (T' := s₁) (g' := (mkF m 8 #[.val (.ref a1), .val (.int (Int32.ofNat a)), .val (.int (Int32.ofNat b)), .val (.int (Int32.ofNat q)), .val (.int (Int32.ofNat j)), .val (.int (Int32.ofNat i))] [(.int (Int32.ofNat i))])) (fun t kt => XS.iload X0.here hx rfl (hb hby d2_6) rfl kt) ?_
      refine go (T' := s₁) (g' := (mkF m 9 #[.val (.ref a1), .val (.int (Int32.ofNat a)), .val (.int (Int32.ofNat b)), .val (.int (Int32.ofNat q)), .val (.int (Int32.ofNat j)), .val (.int (Int32.ofNat i))] [(.int (Int32.ofNat b)), (.int (Int32.ofNat i))])) (fun t kt => XS.iloadN X0.here hx rfl (hb hby d2_8) rfl kt) ?_
      refine go (T' := s₁) (g' := (mkF m 12 #[.val (.ref a1), .val (.int (Int32.ofNat a)), .val (.int (Int32.ofNat b)), .val (.int (Int32.ofNat q)), .val (.int (Int32.ofNat j)), .val (.int (Int32.ofNat i))] [])) (fun t kt => XS.icmpNo X0.here hx rfl (hb hby d2_9) rfl (tlt ((nn_lt (by omega) (by omega)).mpr (by omega))).2.1 kt) ?_
      refine go (T' := s₁) (g' := (mkF m 13 #[.val (.ref a1), .val (.int (Int32.ofNat a)), .val (.int (Int32.ofNat b)), .val (.int (Int32.ofNat q)), .val (.int (Int32.ofNat j)), .val (.int (Int32.ofNat i))] [(.ref a1)])) (fun t kt => XS.aloadN X0.here hx rfl (hb hby d2_12) rfl rfl kt) ?_
      refine go (T' := s₁) (g' := (mkF m 15 #[.val (.ref a1), .val (.int (Int32.ofNat a)), .val (.int (Int32.ofNat b)), .val (.int (Int32.ofNat q)), .val (.int (Int32.ofNat j)), .val (.int (Int32.ofNat i))] [(.int (Int32.ofNat i)), (.ref a1)])) (fun t kt => XS.iload X0.here hx rfl (hb hby d2_13) rfl kt) ?_
      refine go (T' := s₁) (g' := (mkF m 16 #[.val (.ref a1), .val (.int (Int32.ofNat a)), .val (.int (Int32.ofNat b)), .val (.int (Int32.ofNat q)), .val (.int (Int32.ofNat j)), .val (.int (Int32.ofNat i))] [(.int (g i))])) (fun t kt => own_ldB X0 hx hZ e0 V1 (j := (Int32.ofNat i)) ⟨nn_neg (by omega), (nn_lt (j := 6) (by omega) (by omega)).mpr (by omega)⟩ (v := (.int (g i))) (by show Value.int (g _) = _; rw [nn_nat (by omega)]) (g := (mkF m 15 #[.val (.ref a1), .val (.int (Int32.ofNat a)), .val (.int (Int32.ofNat b)), .val (.int (Int32.ofNat q)), .val (.int (Int32.ofNat j)), .val (.int (Int32.ofNat i))] [(.int (Int32.ofNat i)), (.ref a1)])) rfl rfl (hb hby d2_15) _ kt) ?_
      refine go (T' := s₁) (g' := (mkF m 18 #[.val (.ref a1), .val (.int (Int32.ofNat a)), .val (.int (Int32.ofNat b)), .val (.int (Int32.ofNat q)), .val (.int (Int32.ofNat j)), .val (.int (Int32.ofNat i))] [(.int (44 : Int32)), (.int (g i))])) (fun t kt => XS.bipush X0.here hx rfl (hb hby d2_16) kt) ?_
      by_cases h44 : (g i) = (44 : Int32)
      · refine go (T' := s₁) (g' := (mkF m 21 #[.val (.ref a1), .val (.int (Int32.ofNat a)), .val (.int (Int32.ofNat b)), .val (.int (Int32.ofNat q)), .val (.int (Int32.ofNat j)), .val (.int (Int32.ofNat i))] [])) (fun t kt => XS.icmpNo X0.here hx rfl (hb hby d2_18) rfl (teq h44).2 kt) ?_
        refine go (T' := s₁) (g' := (mkF m 24 #[.val (.ref a1), .val (.int (Int32.ofNat a)), .val (.int (Int32.ofNat b)), .val (.int (Int32.ofNat q)), .val (.int ((Int32.ofNat j) + (1 : Int32))), .val (.int (Int32.ofNat i))] [])) (fun t kt => XS.iinc X0.here hx rfl (hb hby d2_21) rfl (l' := #[.val (.ref a1), .val (.int (Int32.ofNat a)), .val (.int (Int32.ofNat b)), .val (.int (Int32.ofNat q)), .val (.int ((Int32.ofNat j) + (1 : Int32))), .val (.int (Int32.ofNat i))]) rfl kt) ?_
        refine goEq (g' := (mkF m 24 #[.val (.ref a1), .val (.int (Int32.ofNat a)), .val (.int (Int32.ofNat b)), .val (.int (Int32.ofNat q)), .val (.int (Int32.ofNat (j + 1))), .val (.int (Int32.ofNat i))] [])) (by rw [show Int32.ofNat j + (1 : Int32) = Int32.ofNat (j + 1) from nn_add j 1]) ?_
        rw [if_pos h44] at hf
        refine go (T' := s₁) (g' := (mkF m 26 #[.val (.ref a1), .val (.int (Int32.ofNat a)), .val (.int (Int32.ofNat b)), .val (.int (Int32.ofNat q)), .val (.int (Int32.ofNat (j + 1))), .val (.int (Int32.ofNat i))] [(.int (Int32.ofNat (j + 1)))])) (fun t kt => XS.iload X0.here hx rfl (hb hby d2_24) rfl kt) ?_
        refine go (T' := s₁) (g' := (mkF m 27 #[.val (.ref a1), .val (.int (Int32.ofNat a)), .val (.int (Int32.ofNat b)), .val (.int (Int32.ofNat q)), .val (.int (Int32.ofNat (j + 1))), .val (.int (Int32.ofNat i))] [(.int (Int32.ofNat q)), (.int (Int32.ofNat (j + 1)))])) (fun t kt => XS.iloadN X0.here hx rfl (hb hby d2_26) rfl kt) ?_
        by_cases hjq : (Int32.ofNat (j + 1)) = (Int32.ofNat q)
        · refine go (T' := s₁) (g' := (mkF m 30 #[.val (.ref a1), .val (.int (Int32.ofNat a)), .val (.int (Int32.ofNat b)), .val (.int (Int32.ofNat q)), .val (.int (Int32.ofNat (j + 1))), .val (.int (Int32.ofNat i))] [])) (fun t kt => XS.icmpNo X0.here hx rfl (hb hby d2_27) rfl (teq hjq).2 kt) ?_
          have kj := (nn_eq (by omega) (by omega)).mp hjq
          rw [if_pos kj] at hf
          refine go (T' := s₁) (g' := (mkF m 32 #[.val (.ref a1), .val (.int (Int32.ofNat a)), .val (.int (Int32.ofNat b)), .val (.int (Int32.ofNat q)), .val (.int (Int32.ofNat (j + 1))), .val (.int (Int32.ofNat i))] [(.int (Int32.ofNat i))])) (fun t kt => XS.iload X0.here hx rfl (hb hby d2_30) rfl kt) ?_
          refine go (T' := s₁) (g' := (mkF m 33 #[.val (.ref a1), .val (.int (Int32.ofNat a)), .val (.int (Int32.ofNat b)), .val (.int (Int32.ofNat q)), .val (.int (Int32.ofNat (j + 1))), .val (.int (Int32.ofNat i))] [(.int (1 : Int32)), (.int (Int32.ofNat i))])) (fun t kt => XS.iconst X0.here hx rfl (hb hby d2_32) kt) ?_
          refine go (T' := s₁) (g' := (mkF m 34 #[.val (.ref a1), .val (.int (Int32.ofNat a)), .val (.int (Int32.ofNat b)), .val (.int (Int32.ofNat q)), .val (.int (Int32.ofNat (j + 1))), .val (.int (Int32.ofNat i))] [(.int ((Int32.ofNat i) + (1 : Int32)))])) (fun t kt => XS.iadd X0.here hx rfl (hb hby d2_33) rfl kt) ?_
          refine go (T' := s₁) (g' := (mkF m 35 #[.val (.ref a1), .val (.int (Int32.ofNat a)), .val (.int (Int32.ofNat b)), .val (.int (Int32.ofNat q)), .val (.int (Int32.ofNat (j + 1))), .val (.int (Int32.ofNat i))] [(.int (Int32.ofNat a)), (.int ((Int32.ofNat i) + (1 : Int32)))])) (fun t kt => XS.iloadN X0.here hx rfl (hb hby d2_34) rfl kt) ?_
          refine go (T' := s₁) (g' := (mkF m 36 #[.val (.ref a1), .val (.int (Int32.ofNat a)), .val (.int (Int32.ofNat b)), .val (.int (Int32.ofNat q)), .val (.int (Int32.ofNat (j + 1))), .val (.int (Int32.ofNat i))] [(.int (((Int32.ofNat i) + (1 : Int32)) - (Int32.ofNat a)))])) (fun t kt => XS.isub X0.here hx rfl (hb hby d2_35) rfl kt) ?_
          refine goEq (g' := (mkF m 36 #[.val (.ref a1), .val (.int (Int32.ofNat a)), .val (.int (Int32.ofNat b)), .val (.int (Int32.ofNat q)), .val (.int (Int32.ofNat (j + 1))), .val (.int (Int32.ofNat i))] [(.int (Int32.ofNat (i + 1 - a)))])) (by rw [show Int32.ofNat i + (1 : Int32) = Int32.ofNat (i + 1) from nn_add i 1, nn_sub (by omega)]) ?_
          refine goRetI X0 hx hlk Bd.returns (hb hby d2_36) ?_ (by decide) (by decide)
          rw [e0]
          exact ⟨by rw [← hf], N0, rfl⟩
        · refine go (T' := s₁) (g' := (mkF m 37 #[.val (.ref a1), .val (.int (Int32.ofNat a)), .val (.int (Int32.ofNat b)), .val (.int (Int32.ofNat q)), .val (.int (Int32.ofNat (j + 1))), .val (.int (Int32.ofNat i))] [])) (fun t kt => XS.icmpYes X0.here hx rfl (pc0 := 27) (pc' := 37) rfl (hb hby d2_27) rfl (feq hjq).2 (by decide) (by decide) kt) ?_
          have kj : ¬ j + 1 = q := fun z => hjq (by rw [z])
          rw [if_neg kj] at hf
          refine go (T' := s₁) (g' := (mkF m 40 #[.val (.ref a1), .val (.int (Int32.ofNat a)), .val (.int (Int32.ofNat b)), .val (.int (Int32.ofNat q)), .val (.int (Int32.ofNat (j + 1))), .val (.int ((Int32.ofNat i) + (1 : Int32)))] [])) (fun t kt => XS.iinc X0.here hx rfl (hb hby d2_37) rfl (l' := #[.val (.ref a1), .val (.int (Int32.ofNat a)), .val (.int (Int32.ofNat b)), .val (.int (Int32.ofNat q)), .val (.int (Int32.ofNat (j + 1))), .val (.int ((Int32.ofNat i) + (1 : Int32)))]) rfl kt) ?_
          refine goEq (g' := (mkF m 40 #[.val (.ref a1), .val (.int (Int32.ofNat a)), .val (.int (Int32.ofNat b)), .val (.int (Int32.ofNat q)), .val (.int (Int32.ofNat (j + 1))), .val (.int (Int32.ofNat (i + 1)))] [])) (by rw [show Int32.ofNat i + (1 : Int32) = Int32.ofNat (i + 1) from nn_add i 1]) ?_
          refine go (T' := s₁) (g' := (mkF m 6 #[.val (.ref a1), .val (.int (Int32.ofNat a)), .val (.int (Int32.ofNat b)), .val (.int (Int32.ofNat q)), .val (.int (Int32.ofNat (j + 1))), .val (.int (Int32.ofNat (i + 1)))] [])) (fun t kt => XS.goto X0.here hx rfl (pc0 := 40) (pc' := 6) rfl (hb hby d2_40) (by decide) (by decide) kt) ?_
          exact ih (i + 1) (j + 1) (by omega) (by omega) (by omega) hf
      · refine go (T' := s₁) (g' := (mkF m 37 #[.val (.ref a1), .val (.int (Int32.ofNat a)), .val (.int (Int32.ofNat b)), .val (.int (Int32.ofNat q)), .val (.int (Int32.ofNat j)), .val (.int (Int32.ofNat i))] [])) (fun t kt => XS.icmpYes X0.here hx rfl (pc0 := 18) (pc' := 37) rfl (hb hby d2_18) rfl (feq h44).2 (by decide) (by decide) kt) ?_
        refine go (T' := s₁) (g' := (mkF m 40 #[.val (.ref a1), .val (.int (Int32.ofNat a)), .val (.int (Int32.ofNat b)), .val (.int (Int32.ofNat q)), .val (.int (Int32.ofNat j)), .val (.int ((Int32.ofNat i) + (1 : Int32)))] [])) (fun t kt => XS.iinc X0.here hx rfl (hb hby d2_37) rfl (l' := #[.val (.ref a1), .val (.int (Int32.ofNat a)), .val (.int (Int32.ofNat b)), .val (.int (Int32.ofNat q)), .val (.int (Int32.ofNat j)), .val (.int ((Int32.ofNat i) + (1 : Int32)))]) rfl kt) ?_
        refine goEq (g' := (mkF m 40 #[.val (.ref a1), .val (.int (Int32.ofNat a)), .val (.int (Int32.ofNat b)), .val (.int (Int32.ofNat q)), .val (.int (Int32.ofNat j)), .val (.int (Int32.ofNat (i + 1)))] [])) (by rw [show Int32.ofNat i + (1 : Int32) = Int32.ofNat (i + 1) from nn_add i 1]) ?_
        refine go (T' := s₁) (g' := (mkF m 6 #[.val (.ref a1), .val (.int (Int32.ofNat a)), .val (.int (Int32.ofNat b)), .val (.int (Int32.ofNat q)), .val (.int (Int32.ofNat j)), .val (.int (Int32.ofNat (i + 1)))] [])) (fun t kt => XS.goto X0.here hx rfl (pc0 := 40) (pc' := 6) rfl (hb hby d2_40) (by decide) (by decide) kt) ?_
        rw [if_neg h44] at hf
        exact ih (i + 1) j (by omega) (by omega) hj hf
  exact loop (b - a) a 0 (Nat.le_refl _) (by omega) (by omega) rfl
theorem pd_1 : parseMethodDescriptor "(JII)B" = some ⟨[.long, .int, .int], some .byte⟩ := by decide +kernel
theorem pd_2 : parseMethodDescriptor "([BII)I" = some ⟨[(.array .byte), .int, .int], some .int⟩ := by decide +kernel
theorem ef_0 (m : MethodId) (q1 : Int64) (p1 : Int32) (p2 : Int32) (p3 : Int32) (p4 : Int32) : entryFrame m #[(.long q1), (.int p1), (.int p2), (.int p3), (.int p4)] maxLocals = mkF m 0 #[.val (.long q1), .second, .val (.int p1), .val (.int p2), .val (.int p3), .val (.int p4), .unset, .unset, .unset, .unset, .unset, .unset] [] := by first | (simp [entryFrame, mkF, argsToLocals, Value.category, maxLocals]; done) | rfl
def Q0 (Z : State) (q1 : Int64) (p1 : Int32) (p2 : Int32) (p3 : Int32) (p4 : Int32) (h0 : Heap) (n0 : Nat) (v : Option Value) (h : Heap) (L : List Loc) : Prop := v = some (.int 1) ∧ Fr n0 L
set_option maxRecDepth 65536 in
set_option maxHeartbeats 40000000 in
theorem rm0 (l : Launch) (Z : State) (a0 : Array Value) (hw : ∀ d ∈ tables_1, d.before a0 Z = true) (ws : List Jvm.Cond) (q1 : Int64) (p1 : Int32) (p2 : Int32) (p3 : Int32) (p4 : Int32) (h0 : Heap) (n0 : Nat) (Z0 : n0 ≤ h0.size)  :
    MetFree l x (head1 (Jvm.Cond.code x code maxLocals ret :: ws) room_1) (fun a U => a = #[(.long q1), (.int p1), (.int p2), (.int p3), (.int p4)] ∧ Z.Warmed39 U.vm ∧ U.heap = h0) (fun _ _ _ _ _ => True) (fun _ U o U' => ∃ v L, o = .returned v ∧ Q0 Z q1 p1 p2 p3 p4 h0 n0 v U'.heap L ∧ FrameEnd U o U' L 1 6) := by
  refine MetFree.of_bodySF (plainFor_of_name pn_1) hisR ?_
  intro p e s m args below meth c s₁ Bd hml0 hP hK
  obtain ⟨rfl, hZ, hh⟩ := hP
  have hx := Bd.exec
  have hby := Bd.bytes
  have hlk := Bd.notSynchronized
  have hml : c.maxLocals = 12 := hml0
  have hown : s.vm.findClass "com/example/tallyward/tallyward/io/CsvFieldsLengthPinLaw" = some m.cls := findClass_of_methodNamed Bd.named
  have hnm := (name_of_methodNamed Bd.named Bd.method).1
  have X0 : Stand p l e room_1 s m #[(.long q1), (.int p1), (.int p2), (.int p3), (.int p4)] below meth c s₁ [] 0 0 := Stand.of_body Bd
  have e0 : s₁.heap = h0 := by rw [← hh, Bd.state]; rfl
  have N0 := Fr.nil n0
  show Goes p e below s 1 6 (Q0 Z q1 p1 p2 p3 p4 h0 n0) s₁ (entryFrame m #[(.long q1), (.int p1), (.int p2), (.int p3), (.int p4)] maxLocals)
  refine goEq (ef_0 m q1 p1 p2 p3 p4) ?_
  refine go (T' := s₁) (g' := (mkF m 2 #[.val (.long q1), .second, .val (.int p1), .val (.int p2), .val (.int p3), .val (.int p4), .unset, .unset, .unset, .unset, .unset, .unset] [(.int (6 : Int32))])) (fun t kt => XS.bipush X0.here hx rfl (hb hby at_0) kt) ?_
  obtain ⟨T1007, h1007, kc1007, X1007, e1007, E1007, A1007, st1007⟩ := newP X0 hx hZ (hw _ (List.mem_of_getElem? (i := 0) rfl)) e0 (g := (mkF m 2 #[.val (.long q1), .second, .val (.int p1), .val (.int p2), .val (.int p3), .val (.int p4), .unset, .unset, .unset, .unset, .unset, .unset] [(.int (6 : Int32))])) rfl (hb hby at_2) rfl (by decide) (cap := 6) (by decide) (by decide) (by decide) (by decide)
  obtain ⟨a1, g1007⟩ : ∃ z, z = h0.size := ⟨_, rfl⟩
  rw [← g1007] at A1007 st1007
  have g_a1 : n0 ≤ a1 := Nat.le_trans Z0 (Nat.le_of_eq g1007.symm)
  have z1007 : n0 ≤ h1007.size := Nat.le_trans Z0 E1007.1
  have V_a1 : Aw Z h1007 a1 .byte (6 : Int32) (fun _ => defaultValue .byte) := Aw.new A1007 (by decide)
  refine go (T' := T1007) (g' := (mkF m 4 #[.val (.long q1), .second, .val (.int p1), .val (.int p2), .val (.int p3), .val (.int p4), .unset, .unset, .unset, .unset, .unset, .unset] [(.ref a1)])) st1007 ?_
  refine go (T' := T1007) (g' := (mkF m 6 #[.val (.long q1), .second, .val (.int p1), .val (.int p2), .val (.int p3), .val (.int p4), .val (.ref a1), .unset, .unset, .unset, .unset, .unset] [])) (fun t kt => XS.astore X1007.here hx rfl (hb hby at_4) rfl rfl (l' := #[.val (.long q1), .second, .val (.int p1), .val (.int p2), .val (.int p3), .val (.int p4), .val (.ref a1), .unset, .unset, .unset, .unset, .unset]) rfl kt) ?_
  refine go (T' := T1007) (g' := (mkF m 8 #[.val (.long q1), .second, .val (.int p1), .val (.int p2), .val (.int p3), .val (.int p4), .val (.ref a1), .unset, .unset, .unset, .unset, .unset] [(.ref a1)])) (fun t kt => XS.aload X1007.here hx rfl (hb hby at_6) rfl rfl kt) ?_
  refine go (T' := T1007) (g' := (mkF m 9 #[.val (.long q1), .second, .val (.int p1), .val (.int p2), .val (.int p3), .val (.int p4), .val (.ref a1), .unset, .unset, .unset, .unset, .unset] [(.int (0 : Int32)), (.ref a1)])) (fun t kt => XS.iconst X1007.here hx rfl (hb hby at_8) kt) ?_
  refine go (T' := T1007) (g' := (mkF m 10 #[.val (.long q1), .second, .val (.int p1), .val (.int p2), .val (.int p3), .val (.int p4), .val (.ref a1), .unset, .unset, .unset, .unset, .unset] [(.long q1), (.int (0 : Int32)), (.ref a1)])) (fun t kt => XS.lloadN X1007.here hx rfl (hb hby at_9) rfl kt) ?_
  refine go (T' := T1007) (g' := (mkF m 11 #[.val (.long q1), .second, .val (.int p1), .val (.int p2), .val (.int p3), .val (.int p4), .val (.ref a1), .unset, .unset, .unset, .unset, .unset] [(.int p1), (.long q1), (.int (0 : Int32)), (.ref a1)])) (fun t kt => XS.iloadN X1007.here hx rfl (hb hby at_10) rfl kt) ?_
  refine go (T' := T1007) (g' := (mkF m 12 #[.val (.long q1), .second, .val (.int p1), .val (.int p2), .val (.int p3), .val (.int p4), .val (.ref a1), .unset, .unset, .unset, .unset, .unset] [(.int (0 : Int32)), (.int p1), (.long q1), (.int (0 : Int32)), (.ref a1)])) (fun t kt => XS.iconst X1007.here hx rfl (hb hby at_11) kt) ?_
  obtain ⟨_, _, ⟨T1008, L1008, k1008, n1008⟩, -, X1008, ⟨Lc1008, hQ1008, l1008, y1008, z1008⟩, st1008⟩ := Jvm.LawKit.callS X1007 hx (y := (⟨"com/example/tallyward/tallyward/io/CsvFieldsLengthPinLaw", "pick", "(JII)B"⟩ : MethodName)) hown (mvT hZ (hw _ (List.mem_of_getElem? (i := 1) rfl))) (mvT hZ (hw _ (List.mem_of_getElem? (i := 2) rfl))) (mvT hZ (hw _ (List.mem_of_getElem? (i := 3) rfl))) (mvT hZ (hw _ (List.mem_of_getElem? (i := 4) rfl))) (by decide) (backOf (W := 2) (rm1 l Z a0 hw [] q1 p1 0 h1007 n0 z1007) hZ (hw _ (List.mem_of_getElem? (i := 4) rfl)) (hw _ (List.mem_of_getElem? (i := 3) rfl)) (by decide) (by decide)) (g := (mkF m 12 #[.val (.long q1), .second, .val (.int p1), .val (.int p2), .val (.int p3), .val (.int p4), .val (.ref a1), .unset, .unset, .unset, .unset, .unset] [(.int (0 : Int32)), (.int p1), (.long q1), (.int (0 : Int32)), (.ref a1)])) rfl (by rw [hml]; rfl) (argsL := [(.long q1), (.int p1), (.int (0 : Int32))]) (rest := [(.int (0 : Int32)), (.ref a1)]) (lenOf pd_1 rfl) rfl (by show 2 * 0 + _ ≤ _; exact Nat.le_of_eq rfl) (hb hby at_12) (fun _ _ => ⟨rfl, e1007, (by decide : 1 + 0 ≤ _), (by decide : 6 + 0 ≤ _)⟩)
  dsimp only [Pt.U, Pt.locs, Pt.cells, Pt.slots] at X1008 l1008 y1008 z1008 st1008 hQ1008
  subst l1008 y1008 z1008
  obtain ⟨x0, rfl, N1008q, e1008⟩ := hQ1008
  have N1008 := Fr.app N0 N1008q
  refine go (T' := T1008) (g' := (mkF m 15 #[.val (.long q1), .second, .val (.int p1), .val (.int p2), .val (.int p3), .val (.int p4), .val (.ref a1), .unset, .unset, .unset, .unset, .unset] [(.int x0), (.int (0 : Int32)), (.ref a1)])) st1008 ?_
  obtain ⟨T1009, h1009, X1009, e1009, W1009, V1009, st1009⟩ := own_stB X1008 hx hZ e1008 V_a1 (j := (0 : Int32)) ⟨by decide, by decide⟩ (g := (mkF m 15 #[.val (.long q1), .second, .val (.int p1), .val (.int p2), .val (.int p3), .val (.int p4), .val (.ref a1), .unset, .unset, .unset, .unset, .unset] [(.int x0), (.int (0 : Int32)), (.ref a1)])) rfl rfl (hb hby at_15)
  have z1009 : n0 ≤ h1009.size := Nat.le_trans z1007 (Keep.of_wr W1009).1
  have N1009 := Fr.snoc X1009 N1008 g_a1
  refine go (T' := T1009) (g' := (mkF m 16 #[.val (.long q1), .second, .val (.int p1), .val (.int p2), .val (.int p3), .val (.int p4), .val (.ref a1), .unset, .unset, .unset, .unset, .unset] [])) st1009 ?_
  refine go (T' := T1009) (g' := (mkF m 18 #[.val (.long q1), .second, .val (.int p1), .val (.int p2), .val (.int p3), .val (.int p4), .val (.ref a1), .unset, .unset, .unset, .unset, .unset] [(.ref a1)])) (fun t kt => XS.aload X1009.here hx rfl (hb hby at_16) rfl rfl kt) ?_
  refine go (T' := T1009) (g' := (mkF m 19 #[.val (.long q1), .second, .val (.int p1), .val (.int p2), .val (.int p3), .val (.int p4), .val (.ref a1), .unset, .unset, .unset, .unset, .unset] [(.int (1 : Int32)), (.ref a1)])) (fun t kt => XS.iconst X1009.here hx rfl (hb hby at_18) kt) ?_
  refine go (T' := T1009) (g' := (mkF m 20 #[.val (.long q1), .second, .val (.int p1), .val (.int p2), .val (.int p3), .val (.int p4), .val (.ref a1), .unset, .unset, .unset, .unset, .unset] [(.long q1), (.int (1 : Int32)), (.ref a1)])) (fun t kt => XS.lloadN X1009.here hx rfl (hb hby at_19) rfl kt) ?_
  refine go (T' := T1009) (g' := (mkF m 21 #[.val (.long q1), .second, .val (.int p1), .val (.int p2), .val (.int p3), .val (.int p4), .val (.ref a1), .unset, .unset, .unset, .unset, .unset] [(.int p1), (.long q1), (.int (1 : Int32)), (.ref a1)])) (fun t kt => XS.iloadN X1009.here hx rfl (hb hby at_20) rfl kt) ?_
  refine go (T' := T1009) (g' := (mkF m 22 #[.val (.long q1), .second, .val (.int p1), .val (.int p2), .val (.int p3), .val (.int p4), .val (.ref a1), .unset, .unset, .unset, .unset, .unset] [(.int (1 : Int32)), (.int p1), (.long q1), (.int (1 : Int32)), (.ref a1)])) (fun t kt => XS.iconst X1009.here hx rfl (hb hby at_21) kt) ?_
  obtain ⟨_, _, ⟨T1010, L1010, k1010, n1010⟩, -, X1010, ⟨Lc1010, hQ1010, l1010, y1010, z1010⟩, st1010⟩ := Jvm.LawKit.callS X1009 hx (y := (⟨"com/example/tallyward/tallyward/io/CsvFieldsLengthPinLaw", "pick", "(JII)B"⟩ : MethodName)) hown (mvT hZ (hw _ (List.mem_of_getElem? (i := 1) rfl))) (mvT hZ (hw _ (List.mem_of_getElem? (i := 2) rfl))) (mvT hZ (hw _ (List.mem_of_getElem? (i := 3) rfl))) (mvT hZ (hw _ (List.mem_of_getElem? (i := 4) rfl))) (by decide) (backOf (W := 2) (rm1 l Z a0 hw [] q1 p1 1 h1009 n0 z1009) hZ (hw _ (List.mem_of_getElem? (i := 4) rfl)) (hw _ (List.mem_of_getElem? (i := 3) rfl)) (by decide) (by decide)) (g := (mkF m 22 #[.val (.long q1), .second, .val (.int p1), .val (.int p2), .val (.int p3), .val (.int p4), .val (.ref a1), .unset, .unset, .unset, .unset, .unset] [(.int (1 : Int32)), (.int p1), (.long q1), (.int (1 : Int32)), (.ref a1)])) rfl (by rw [hml]; rfl) (argsL := [(.long q1), (.int p1), (.int (1 : Int32))]) (rest := [(.int (1 : Int32)), (.ref a1)]) (lenOf pd_1 rfl) rfl (by show 2 * 0 + _ ≤ _; exact Nat.le_of_eq rfl) (hb hby at_22) (fun _ _ => ⟨rfl, e1009, (by decide : 1 + 0 ≤ _), (by decide : 6 + 0 ≤ _)⟩)
  dsimp only [Pt.U, Pt.locs, Pt.cells, Pt.slots] at X1010 l1010 y1010 z1010 st1010 hQ1010
  subst l1010 y1010 z1010
  obtain ⟨x1, rfl, N1010q, e1010⟩ := hQ1010
  have N1010 := Fr.app N1009 N1010q
  refine go (T' := T1010) (g' := (mkF m 25 #[.val (.long q1), .second, .val (.int p1), .val (.int p2), .val (.int p3), .val (.int p4), .val (.ref a1), .unset, .unset, .unset, .unset, .unset] [(.int x1), (.int (1 : Int32)), (.ref a1)])) st1010 ?_
  obtain ⟨T1011, h1011, X1011, e1011, W1011, V1011, st1011⟩ := own_stB X1010 hx hZ e1010 V1009 (j := (1 : Int32)) ⟨by decide, by decide⟩ (g := (mkF m 25 #[.val (.long q1), .second, .val (.int p1), .val (.int p2), .val (.int p3), .val (.int p4), .val (.ref a1), .unset, .unset, .unset, .unset, .unset] [(.int x1), (.int (1 : Int32)), (.ref a1)])) rfl rfl (hb hby at_25)
  have z1011 : n0 ≤ h1011.size := Nat.le_trans z1009 (Keep.of_wr W1011).1
  have N1011 := Fr.snoc X1011 N1010 g_a1
  refine go (T' := T1011) (g' := (mkF m 26 #[.val (.long q1), .second, .val (.int p1), .val (.int p2), .val (.int p3), .val (.int p4), .val (.ref a1), .unset, .unset, .unset, .unset, .unset] [])) st1011 ?_
  refine go (T' := T1011) (g' := (mkF m 28 #[.val (.long q1), .second, .val (.int p1), .val (.int p2), .val (.int p3), .val (.int p4), .val (.ref a1), .unset, .unset, .unset, .unset, .unset] [(.ref a1)])) (fun t kt => XS.aload X1011.here hx rfl (hb hby at_26) rfl rfl kt) ?_
  refine go (T' := T1011) (g' := (mkF m 29 #[.val (.long q1), .second, .val (.int p1), .val (.int p2), .val (.int p3), .val (.int p4), .val (.ref a1), .unset, .unset, .unset, .unset, .unset] [(.int (2 : Int32)), (.ref a1)])) (fun t kt => XS.iconst X1011.here hx rfl (hb hby at_28) kt) ?_
  refine go (T' := T1011) (g' := (mkF m 30 #[.val (.long q1), .second, .val (.int p1), .val (.int p2), .val (.int p3), .val (.int p4), .val (.ref a1), .unset, .unset, .unset, .unset, .unset] [(.long q1), (.int (2 : Int32)), (.ref a1)])) (fun t kt => XS.lloadN X1011.here hx rfl (hb hby at_29) rfl kt) ?_
  refine go (T' := T1011) (g' := (mkF m 31 #[.val (.long q1), .second, .val (.int p1), .val (.int p2), .val (.int p3), .val (.int p4), .val (.ref a1), .unset, .unset, .unset, .unset, .unset] [(.int p1), (.long q1), (.int (2 : Int32)), (.ref a1)])) (fun t kt => XS.iloadN X1011.here hx rfl (hb hby at_30) rfl kt) ?_
  refine go (T' := T1011) (g' := (mkF m 32 #[.val (.long q1), .second, .val (.int p1), .val (.int p2), .val (.int p3), .val (.int p4), .val (.ref a1), .unset, .unset, .unset, .unset, .unset] [(.int (2 : Int32)), (.int p1), (.long q1), (.int (2 : Int32)), (.ref a1)])) (fun t kt => XS.iconst X1011.here hx rfl (hb hby at_31) kt) ?_
  obtain ⟨_, _, ⟨T1012, L1012, k1012, n1012⟩, -, X1012, ⟨Lc1012, hQ1012, l1012, y1012, z1012⟩, st1012⟩ := Jvm.LawKit.callS X1011 hx (y := (⟨"com/example/tallyward/tallyward/io/CsvFieldsLengthPinLaw", "pick", "(JII)B"⟩ : MethodName)) hown (mvT hZ (hw _ (List.mem_of_getElem? (i := 1) rfl))) (mvT hZ (hw _ (List.mem_of_getElem? (i := 2) rfl))) (mvT hZ (hw _ (List.mem_of_getElem? (i := 3) rfl))) (mvT hZ (hw _ (List.mem_of_getElem? (i := 4) rfl))) (by decide) (backOf (W := 2) (rm1 l Z a0 hw [] q1 p1 2 h1011 n0 z1011) hZ (hw _ (List.mem_of_getElem? (i := 4) rfl)) (hw _ (List.mem_of_getElem? (i := 3) rfl)) (by decide) (by decide)) (g := (mkF m 32 #[.val (.long q1), .second, .val (.int p1), .val (.int p2), .val (.int p3), .val (.int p4), .val (.ref a1), .unset, .unset, .unset, .unset, .unset] [(.int (2 : Int32)), (.int p1), (.long q1), (.int (2 : Int32)), (.ref a1)])) rfl (by rw [hml]; rfl) (argsL := [(.long q1), (.int p1), (.int (2 : Int32))]) (rest := [(.int (2 : Int32)), (.ref a1)]) (lenOf pd_1 rfl) rfl (by show 2 * 0 + _ ≤ _; exact Nat.le_of_eq rfl) (hb hby at_32) (fun _ _ => ⟨rfl, e1011, (by decide : 1 + 0 ≤ _), (by decide : 6 + 0 ≤ _)⟩)
  dsimp only [Pt.U, Pt.locs, Pt.cells, Pt.slots] at X1012 l1012 y1012 z1012 st1012 hQ1012
  subst l1012 y1012 z1012
  obtain ⟨x2, rfl, N1012q, e1012⟩ := hQ1012
  have N1012 := Fr.app N1011 N1012q
  refine go (T' := T1012) (g' := (mkF m 35 #[.val (.long q1), .second, .val (.int p1), .val (.int p2), .val (.int p3), .val (.int p4), .val (.ref a1), .unset, .unset, .unset, .unset, .unset] [(.int x2), (.int (2 : Int32)), (.ref a1)])) st1012 ?_
  obtain ⟨T1013, h1013, X1013, e1013, W1013, V1013, st1013⟩ := own_stB X1012 hx hZ e1012 V1011 (j := (2 : Int32)) ⟨by decide, by decide⟩ (g := (mkF m 35 #[.val (.long q1), .second, .val (.int p1), .val (.int p2), .val (.int p3), .val (.int p4), .val (.ref a1), .unset, .unset, .unset, .unset, .unset] [(.int x2), (.int (2 : Int32)), (.ref a1)])) rfl rfl (hb hby at_35)
  have z1013 : n0 ≤ h1013.size := Nat.le_trans z1011 (Keep.of_wr W1013).1
  have N1013 := Fr.snoc X1013 N1012 g_a1
  refine go (T' := T1013) (g' := (mkF m 36 #[.val (.long q1), .second, .val (.int p1), .val (.int p2), .val (.int p3), .val (.int p4), .val (.ref a1), .unset, .unset, .unset, .unset, .unset] [])) st1013 ?_
  refine go (T' := T1013) (g' := (mkF m 38 #[.val (.long q1), .second, .val (.int p1), .val (.int p2), .val (.int p3), .val (.int p4), .val (.ref a1), .unset, .unset, .unset, .unset, .unset] [(.ref a1)])) (fun t kt => XS.aload X1013.here hx rfl (hb hby at_36) rfl rfl kt) ?_
  refine go (T' := T1013) (g' := (mkF m 39 #[.val (.long q1), .second, .val (.int p1), .val (.int p2), .val (.int p3), .val (.int p4), .val (.ref a1), .unset, .unset, .unset, .unset, .unset] [(.int (3 : Int32)), (.ref a1)])) (fun t kt => XS.iconst X1013.here hx rfl (hb hby at_38) kt) ?_
  refine go (T' := T1013) (g' := (mkF m 40 #[.val (.long q1), .second, .val (.int p1), .val (.int p2), .val (.int p3), .val (.int p4), .val (.ref a1), .unset, .unset, .unset, .unset, .unset] [(.long q1), (.int (3 : Int32)), (.ref a1)])) (fun t kt => XS.lloadN X1013.here hx rfl (hb hby at_39) rfl kt) ?_
  refine go (T' := T1013) (g' := (mkF m 41 #[.val (.long q1), .second, .val (.int p1), .val (.int p2), .val (.int p3), .val (.int p4), .val (.ref a1), .unset, .unset, .unset, .unset, .unset] [(.int p1), (.long q1), (.int (3 : Int32)), (.ref a1)])) (fun t kt => XS.iloadN X1013.here hx rfl (hb hby at_40) rfl kt) ?_
  refine go (T' := T1013) (g' := (mkF m 42 #[.val (.long q1), .second, .val (.int p1), .val (.int p2), .val (.int p3), .val (.int p4), .val (.ref a1), .unset, .unset, .unset, .unset, .unset] [(.int (3 : Int32)), (.int p1), (.long q1), (.int (3 : Int32)), (.ref a1)])) (fun t kt => XS.iconst X1013.here hx rfl (hb hby at_41) kt) ?_
  obtain ⟨_, _, ⟨T1014, L1014, k1014, n1014⟩, -, X1014, ⟨Lc1014, hQ1014, l1014, y1014, z1014⟩, st1014⟩ := Jvm.LawKit.callS X1013 hx (y := (⟨"com/example/tallyward/tallyward/io/CsvFieldsLengthPinLaw", "pick", "(JII)B"⟩ : MethodName)) hown (mvT hZ (hw _ (List.mem_of_getElem? (i := 1) rfl))) (mvT hZ (hw _ (List.mem_of_getElem? (i := 2) rfl))) (mvT hZ (hw _ (List.mem_of_getElem? (i := 3) rfl))) (mvT hZ (hw _ (List.mem_of_getElem? (i := 4) rfl))) (by decide) (backOf (W := 2) (rm1 l Z a0 hw [] q1 p1 3 h1013 n0 z1013) hZ (hw _ (List.mem_of_getElem? (i := 4) rfl)) (hw _ (List.mem_of_getElem? (i := 3) rfl)) (by decide) (by decide)) (g := (mkF m 42 #[.val (.long q1), .second, .val (.int p1), .val (.int p2), .val (.int p3), .val (.int p4), .val (.ref a1), .unset, .unset, .unset, .unset, .unset] [(.int (3 : Int32)), (.int p1), (.long q1), (.int (3 : Int32)), (.ref a1)])) rfl (by rw [hml]; rfl) (argsL := [(.long q1), (.int p1), (.int (3 : Int32))]) (rest := [(.int (3 : Int32)), (.ref a1)]) (lenOf pd_1 rfl) rfl (by show 2 * 0 + _ ≤ _; exact Nat.le_of_eq rfl) (hb hby at_42) (fun _ _ => ⟨rfl, e1013, (by decide : 1 + 0 ≤ _), (by decide : 6 + 0 ≤ _)⟩)
  dsimp only [Pt.U, Pt.locs, Pt.cells, Pt.slots] at X1014 l1014 y1014 z1014 st1014 hQ1014
  subst l1014 y1014 z1014
  obtain ⟨x3, rfl, N1014q, e1014⟩ := hQ1014
  have N1014 := Fr.app N1013 N1014q
  refine go (T' := T1014) (g' := (mkF m 45 #[.val (.long q1), .second, .val (.int p1), .val (.int p2), .val (.int p3), .val (.int p4), .val (.ref a1), .unset, .unset, .unset, .unset, .unset] [(.int x3), (.int (3 : Int32)), (.ref a1)])) st1014 ?_
  obtain ⟨T1015, h1015, X1015, e1015, W1015, V1015, st1015⟩ := own_stB X1014 hx hZ e1014 V1013 (j := (3 : Int32)) ⟨by decide, by decide⟩ (g := (mkF m 45 #[.val (.long q1), .second, .val (.int p1), .val (.int p2), .val (.int p3), .val (.int p4), .val (.ref a1), .unset, .unset, .unset, .unset, .unset] [(.int x3), (.int (3 : Int32)), (.ref a1)])) rfl rfl (hb hby at_45)
  have z1015 : n0 ≤ h1015.size := Nat.le_trans z1013 (Keep.of_wr W1015).1
  have N1015 := Fr.snoc X1015 N1014 g_a1
  refine go (T' := T1015) (g' := (mkF m 46 #[.val (.long q1), .second, .val (.int p1), .val (.int p2), .val (.int p3), .val (.int p4), .val (.ref a1), .unset, .unset, .unset, .unset, .unset] [])) st1015 ?_
  refine go (T' := T1015) (g' := (mkF m 48 #[.val (.long q1), .second, .val (.int p1), .val (.int p2), .val (.int p3), .val (.int p4), .val (.ref a1), .unset, .unset, .unset, .unset, .unset] [(.ref a1)])) (fun t kt => XS.aload X1015.here hx rfl (hb hby at_46) rfl rfl kt) ?_
  refine go (T' := T1015) (g' := (mkF m 49 #[.val (.long q1), .second, .val (.int p1), .val (.int p2), .val (.int p3), .val (.int p4), .val (.ref a1), .unset, .unset, .unset, .unset, .unset] [(.int (4 : Int32)), (.ref a1)])) (fun t kt => XS.iconst X1015.here hx rfl (hb hby at_48) kt) ?_
  refine go (T' := T1015) (g' := (mkF m 50 #[.val (.long q1), .second, .val (.int p1), .val (.int p2), .val (.int p3), .val (.int p4), .val (.ref a1), .unset, .unset, .unset, .unset, .unset] [(.long q1), (.int (4 : Int32)), (.ref a1)])) (fun t kt => XS.lloadN X1015.here hx rfl (hb hby at_49) rfl kt) ?_
  refine go (T' := T1015) (g' := (mkF m 51 #[.val (.long q1), .second, .val (.int p1), .val (.int p2), .val (.int p3), .val (.int p4), .val (.ref a1), .unset, .unset, .unset, .unset, .unset] [(.int p1), (.long q1), (.int (4 : Int32)), (.ref a1)])) (fun t kt => XS.iloadN X1015.here hx rfl (hb hby at_50) rfl kt) ?_
  refine go (T' := T1015) (g' := (mkF m 52 #[.val (.long q1), .second, .val (.int p1), .val (.int p2), .val (.int p3), .val (.int p4), .val (.ref a1), .unset, .unset, .unset, .unset, .unset] [(.int (4 : Int32)), (.int p1), (.long q1), (.int (4 : Int32)), (.ref a1)])) (fun t kt => XS.iconst X1015.here hx rfl (hb hby at_51) kt) ?_
  obtain ⟨_, _, ⟨T1016, L1016, k1016, n1016⟩, -, X1016, ⟨Lc1016, hQ1016, l1016, y1016, z1016⟩, st1016⟩ := Jvm.LawKit.callS X1015 hx (y := (⟨"com/example/tallyward/tallyward/io/CsvFieldsLengthPinLaw", "pick", "(JII)B"⟩ : MethodName)) hown (mvT hZ (hw _ (List.mem_of_getElem? (i := 1) rfl))) (mvT hZ (hw _ (List.mem_of_getElem? (i := 2) rfl))) (mvT hZ (hw _ (List.mem_of_getElem? (i := 3) rfl))) (mvT hZ (hw _ (List.mem_of_getElem? (i := 4) rfl))) (by decide) (backOf (W := 2) (rm1 l Z a0 hw [] q1 p1 4 h1015 n0 z1015) hZ (hw _ (List.mem_of_getElem? (i := 4) rfl)) (hw _ (List.mem_of_getElem? (i := 3) rfl)) (by decide) (by decide)) (g := (mkF m 52 #[.val (.long q1), .second, .val (.int p1), .val (.int p2), .val (.int p3), .val (.int p4), .val (.ref a1), .unset, .unset, .unset, .unset, .unset] [(.int (4 : Int32)), (.int p1), (.long q1), (.int (4 : Int32)), (.ref a1)])) rfl (by rw [hml]; rfl) (argsL := [(.long q1), (.int p1), (.int (4 : Int32))]) (rest := [(.int (4 : Int32)), (.ref a1)]) (lenOf pd_1 rfl) rfl (by show 2 * 0 + _ ≤ _; exact Nat.le_of_eq rfl) (hb hby at_52) (fun _ _ => ⟨rfl, e1015, (by decide : 1 + 0 ≤ _), (by decide : 6 + 0 ≤ _)⟩)
  dsimp only [Pt.U, Pt.locs, Pt.cells, Pt.slots] at X1016 l1016 y1016 z1016 st1016 hQ1016
  subst l1016 y1016 z1016
  obtain ⟨x4, rfl, N1016q, e1016⟩ := hQ1016
  have N1016 := Fr.app N1015 N1016q
  refine go (T' := T1016) (g' := (mkF m 55 #[.val (.long q1), .second, .val (.int p1), .val (.int p2), .val (.int p3), .val (.int p4), .val (.ref a1), .unset, .unset, .unset, .unset, .unset] [(.int x4), (.int (4 : Int32)), (.ref a1)])) st1016 ?_
  obtain ⟨T1017, h1017, X1017, e1017, W1017, V1017, st1017⟩ := own_stB X1016 hx hZ e1016 V1015 (j := (4 : Int32)) ⟨by decide, by decide⟩ (g := (mkF m 55 #[.val (.long q1), .second, .val (.int p1), .val (.int p2), .val (.int p3), .val (.int p4), .val (.ref a1), .unset, .unset, .unset, .unset, .unset] [(.int x4), (.int (4 : Int32)), (.ref a1)])) rfl rfl (hb hby at_55)
  have z1017 : n0 ≤ h1017.size := Nat.le_trans z1015 (Keep.of_wr W1017).1
  have N1017 := Fr.snoc X1017 N1016 g_a1
  refine go (T' := T1017) (g' := (mkF m 56 #[.val (.long q1), .second, .val (.int p1), .val (.int p2), .val (.int p3), .val (.int p4), .val (.ref a1), .unset, .unset, .unset, .unset, .unset] [])) st1017 ?_
  refine go (T' := T1017) (g' := (mkF m 58 #[.val (.long q1), .second, .val (.int p1), .val (.int p2), .val (.int p3), .val (.int p4), .val (.ref a1), .unset, .unset, .unset, .unset, .unset] [(.ref a1)])) (fun t kt => XS.aload X1017.here hx rfl (hb hby at_56) rfl rfl kt) ?_
  refine go (T' := T1017) (g' := (mkF m 59 #[.val (.long q1), .second, .val (.int p1), .val (.int p2), .val (.int p3), .val (.int p4), .val (.ref a1), .unset, .unset, .unset, .unset, .unset] [(.int (5 : Int32)), (.ref a1)])) (fun t kt => XS.iconst X1017.here hx rfl (hb hby at_58) kt) ?_
  refine go (T' := T1017) (g' := (mkF m 60 #[.val (.long q1), .second, .val (.int p1), .val (.int p2), .val (.int p3), .val (.int p4), .val (.ref a1), .unset, .unset, .unset, .unset, .unset] [(.long q1), (.int (5 : Int32)), (.ref a1)])) (fun t kt => XS.lloadN X1017.here hx rfl (hb hby at_59) rfl kt) ?_
  refine go (T' := T1017) (g' := (mkF m 61 #[.val (.long q1), .second, .val (.int p1), .val (.int p2), .val (.int p3), .val (.int p4), .val (.ref a1), .unset, .unset, .unset, .unset, .unset] [(.int p1), (.long q1), (.int (5 : Int32)), (.ref a1)])) (fun t kt => XS.iloadN X1017.here hx rfl (hb hby at_60) rfl kt) ?_
  refine go (T' := T1017) (g' := (mkF m 62 #[.val (.long q1), .second, .val (.int p1), .val (.int p2), .val (.int p3), .val (.int p4), .val (.ref a1), .unset, .unset, .unset, .unset, .unset] [(.int (5 : Int32)), (.int p1), (.long q1), (.int (5 : Int32)), (.ref a1)])) (fun t kt => XS.iconst X1017.here hx rfl (hb hby at_61) kt) ?_
  obtain ⟨_, _, ⟨T1018, L1018, k1018, n1018⟩, -, X1018, ⟨Lc1018, hQ1018, l1018, y1018, z1018⟩, st1018⟩ := Jvm.LawKit.callS X1017 hx (y := (⟨"com/example/tallyward/tallyward/io/CsvFieldsLengthPinLaw", "pick", "(JII)B"⟩ : MethodName)) hown (mvT hZ (hw _ (List.mem_of_getElem? (i := 1) rfl))) (mvT hZ (hw _ (List.mem_of_getElem? (i := 2) rfl))) (mvT hZ (hw _ (List.mem_of_getElem? (i := 3) rfl))) (mvT hZ (hw _ (List.mem_of_getElem? (i := 4) rfl))) (by decide) (backOf (W := 2) (rm1 l Z a0 hw [] q1 p1 5 h1017 n0 z1017) hZ (hw _ (List.mem_of_getElem? (i := 4) rfl)) (hw _ (List.mem_of_getElem? (i := 3) rfl)) (by decide) (by decide)) (g := (mkF m 62 #[.val (.long q1), .second, .val (.int p1), .val (.int p2), .val (.int p3), .val (.int p4), .val (.ref a1), .unset, .unset, .unset, .unset, .unset] [(.int (5 : Int32)), (.int p1), (.long q1), (.int (5 : Int32)), (.ref a1)])) rfl (by rw [hml]; rfl) (argsL := [(.long q1), (.int p1), (.int (5 : Int32))]) (rest := [(.int (5 : Int32)), (.ref a1)]) (lenOf pd_1 rfl) rfl (by show 2 * 0 + _ ≤ _; exact Nat.le_of_eq rfl) (hb hby at_62) (fun _ _ => ⟨rfl, e1017, (by decide : 1 + 0 ≤ _), (by decide : 6 + 0 ≤ _)⟩)
  dsimp only [Pt.U, Pt.locs, Pt.cells, Pt.slots] at X1018 l1018 y1018 z1018 st1018 hQ1018
  subst l1018 y1018 z1018
  obtain ⟨x5, rfl, N1018q, e1018⟩ := hQ1018
  have N1018 := Fr.app N1017 N1018q
  refine go (T' := T1018) (g' := (mkF m 65 #[.val (.long q1), .second, .val (.int p1), .val (.int p2), .val (.int p3), .val (.int p4), .val (.ref a1), .unset, .unset, .unset, .unset, .unset] [(.int x5), (.int (5 : Int32)), (.ref a1)])) st1018 ?_
  obtain ⟨T1019, h1019, X1019, e1019, W1019, V1019, st1019⟩ := own_stB X1018 hx hZ e1018 V1017 (j := (5 : Int32)) ⟨by decide, by decide⟩ (g := (mkF m 65 #[.val (.long q1), .second, .val (.int p1), .val (.int p2), .val (.int p3), .val (.int p4), .val (.ref a1), .unset, .unset, .unset, .unset, .unset] [(.int x5), (.int (5 : Int32)), (.ref a1)])) rfl rfl (hb hby at_65)
  have z1019 : n0 ≤ h1019.size := Nat.le_trans z1017 (Keep.of_wr W1019).1
  have N1019 := Fr.snoc X1019 N1018 g_a1
  refine go (T' := T1019) (g' := (mkF m 66 #[.val (.long q1), .second, .val (.int p1), .val (.int p2), .val (.int p3), .val (.int p4), .val (.ref a1), .unset, .unset, .unset, .unset, .unset] [])) st1019 ?_
  obtain ⟨g, V1⟩ : ∃ g : Nat → Int32, Aw Z h1019 a1 .byte 6 (fun i => .int (g i)) := ⟨_, V1019.congr (fun i _ => (own_ints_upd (own_ints_upd (own_ints_upd (own_ints_upd (own_ints_upd (own_ints_upd (fun _ => rfl : own_ints (fun _ => defaultValue .byte)) _ _) _ _) _ _) _ _) _ _) _ _) i)⟩
  refine go (T' := T1019) (g' := (mkF m 67 #[.val (.long q1), .second, .val (.int p1), .val (.int p2), .val (.int p3), .val (.int p4), .val (.ref a1), .unset, .unset, .unset, .unset, .unset] [(.int p2)])) (fun t kt => XS.iloadN X1019.here hx rfl (hb hby at_66) rfl kt) ?_
  refine go (T' := T1019) (g' := (mkF m 69 #[.val (.long q1), .second, .val (.int p1), .val (.int p2), .val (.int p3), .val (.int p4), .val (.ref a1), .unset, .unset, .unset, .unset, .unset] [(.int (2147483647 : Int32)), (.int p2)])) (fun t kt => X1019.ldcInt hx hown (mvT hZ (hw _ (List.mem_of_getElem? (i := 5) rfl))) (g := (mkF m 67 #[.val (.long q1), .second, .val (.int p1), .val (.int p2), .val (.int p3), .val (.int p4), .val (.ref a1), .unset, .unset, .unset, .unset, .unset] [(.int p2)])) rfl (hb hby at_67) _ kt) ?_
  refine go (T' := T1019) (g' := (mkF m 70 #[.val (.long q1), .second, .val (.int p1), .val (.int p2), .val (.int p3), .val (.int p4), .val (.ref a1), .unset, .unset, .unset, .unset, .unset] [(.int (p2 &&& (2147483647 : Int32)))])) (fun t kt => XS.iand X1019.here hx rfl (hb hby at_69) rfl kt) ?_
  refine go (T' := T1019) (g' := (mkF m 72 #[.val (.long q1), .second, .val (.int p1), .val (.int p2), .val (.int p3), .val (.int p4), .val (.ref a1), .unset, .unset, .unset, .unset, .unset] [(.int (7 : Int32)), (.int (p2 &&& (2147483647 : Int32)))])) (fun t kt => XS.bipush X1019.here hx rfl (hb hby at_70) kt) ?_
  refine go (T' := T1019) (g' := (mkF m 73 #[.val (.long q1), .second, .val (.int p1), .val (.int p2), .val (.int p3), .val (.int p4), .val (.ref a1), .unset, .unset, .unset, .unset, .unset] [(.int ((p2 &&& (2147483647 : Int32)) % (7 : Int32)))])) (fun t kt => iremM X1019 hx rfl (hb hby at_72) rfl (by decide) kt) ?_
  obtain ⟨a, ha, ea⟩ : ∃ i, i < 7 ∧ (p2 &&& (2147483647 : Int32)) % (7 : Int32) = Int32.ofNat i := nn_rem (own_and31 p2) (k := 7) (by decide) (by decide)
  refine goEq (g' := (mkF m 73 #[.val (.long q1), .second, .val (.int p1), .val (.int p2), .val (.int p3), .val (.int p4), .val (.ref a1), .unset, .unset, .unset, .unset, .unset] [(.int (Int32.ofNat a))])) (by rw [ea]) ?_
  refine go (T' := T1019) (g' := (mkF m 75 #[.val (.long q1), .second, .val (.int p1), .val (.int p2), .val (.int p3), .val (.int p4), .val (.ref a1), .val (.int (Int32.ofNat a)), .unset, .unset, .unset, .unset] [])) (fun t kt => XS.istore X1019.here hx rfl (hb hby at_73) rfl (l' := #[.val (.long q1), .second, .val (.int p1), .val (.int p2), .val (.int p3), .val (.int p4), .val (.ref a1), .val (.int (Int32.ofNat a)), .unset, .unset, .unset, .unset]) rfl kt) ?_
  refine go (T' := T1019) (g' := (mkF m 77 #[.val (.long q1), .second, .val (.int p1), .val (.int p2), .val (.int p3), .val (.int p4), .val (.ref a1), .val (.int (Int32.ofNat a)), .unset, .unset, .unset, .unset] [(.int (Int32.ofNat a))])) (fun t kt => XS.iload X1019.here hx rfl (hb hby at_75) rfl kt) ?_
  refine go (T' := T1019) (g' := (mkF m 79 #[.val (.long q1), .second, .val (.int p1), .val (.int p2), .val (.int p3), .val (.int p4), .val (.ref a1), .val (.int (Int32.ofNat a)), .unset, .unset, .unset, .unset] [(.int p3), (.int (Int32.ofNat a))])) (fun t kt => XS.iload X1019.here hx rfl (hb hby at_77) rfl kt) ?_
  refine go (T' := T1019) (g' := (mkF m 81 #[.val (.long q1), .second, .val (.int p1), .val (.int p2), .val (.int p3), .val (.int p4), .val (.ref a1), .val (.int (Int32.ofNat a)), .unset, .unset, .unset, .unset] [(.int (2147483647 : Int32)), (.int p3), (.int (Int32.ofNat a))])) (fun t kt => X1019.ldcInt hx hown (mvT hZ (hw _ (List.mem_of_getElem? (i := 5) rfl))) (g := (mkF m 79 #[.val (.long q1), .second, .val (.int p1), .val (.int p2), .val (.int p3), .val (.int p4), .val (.ref a1), .val (.int (Int32.ofNat a)), .unset, .unset, .unset, .unset] [(.int p3), (.int (Int32.ofNat a))])) rfl (hb hby at_79) _ kt) ?_
  refine go (T' := T1019) (g' := (mkF m 82 #[.val (.long q1), .second, .val (.int p1), .val (.int p2), .val (.int p3), .val (.int p4), .val (.ref a1), .val (.int (Int32.ofNat a)), .unset, .unset, .unset, .unset] [(.int (p3 &&& (2147483647 : Int32))), (.int (Int32.ofNat a))])) (fun t kt => XS.iand X1019.here hx rfl (hb hby at_81) rfl kt) ?_
  refine go (T' := T1019) (g' := (mkF m 84 #[.val (.long q1), .second, .val (.int p1), .val (.int p2), .val (.int p3), .val (.int p4), .val (.ref a1), .val (.int (Int32.ofNat a)), .unset, .unset, .unset, .unset] [(.int (7 : Int32)), (.int (p3 &&& (2147483647 : Int32))), (.int (Int32.ofNat a))])) (fun t kt => XS.bipush X1019.here hx rfl (hb hby at_82) kt) ?_
  refine go (T' := T1019) (g' := (mkF m 86 #[.val (.long q1), .second, .val (.int p1), .val (.int p2), .val (.int p3), .val (.int p4), .val (.ref a1), .val (.int (Int32.ofNat a)), .unset, .unset, .unset, .unset] [(.int (Int32.ofNat a)), (.int (7 : Int32)), (.int (p3 &&& (2147483647 : Int32))), (.int (Int32.ofNat a))])) (fun t kt => XS.iload X1019.here hx rfl (hb hby at_84) rfl kt) ?_
  refine go (T' := T1019) (g' := (mkF m 87 #[.val (.long q1), .second, .val (.int p1), .val (.int p2), .val (.int p3), .val (.int p4), .val (.ref a1), .val (.int (Int32.ofNat a)), .unset, .unset, .unset, .unset] [(.int ((7 : Int32) - (Int32.ofNat a))), (.int (p3 &&& (2147483647 : Int32))), (.int (Int32.ofNat a))])) (fun t kt => XS.isub X1019.here hx rfl (hb hby at_86) rfl kt) ?_
  refine goEq (g' := (mkF m 87 #[.val (.long q1), .second, .val (.int p1), .val (.int p2), .val (.int p3), .val (.int p4), .val (.ref a1), .val (.int (Int32.ofNat a)), .unset, .unset, .unset, .unset] [(.int (Int32.ofNat (7 - a))), (.int (p3 &&& (2147483647 : Int32))), (.int (Int32.ofNat a))])) (by rw [show (7 : Int32) - Int32.ofNat a = Int32.ofNat (7 - a) from nn_sub (i := 7) (by omega)]) ?_
  refine go (T' := T1019) (g' := (mkF m 88 #[.val (.long q1), .second, .val (.int p1), .val (.int p2), .val (.int p3), .val (.int p4), .val (.ref a1), .val (.int (Int32.ofNat a)), .unset, .unset, .unset, .unset] [(.int ((p3 &&& (2147483647 : Int32)) % (Int32.ofNat (7 - a)))), (.int (Int32.ofNat a))])) (fun t kt => iremM X1019 hx rfl (hb hby at_87) rfl (fun z => by have := (nn_eq (j := 0) (by omega) (by omega)).mp z; omega) kt) ?_
  obtain ⟨d, hd, ed⟩ : ∃ i, i < 7 - a ∧ (p3 &&& (2147483647 : Int32)) % Int32.ofNat (7 - a) = Int32.ofNat i := nn_rem (own_and31 p3) (k := 7 - a) (by omega) (by omega)
  refine goEq (g' := (mkF m 88 #[.val (.long q1), .second, .val (.int p1), .val (.int p2), .val (.int p3), .val (.int p4), .val (.ref a1), .val (.int (Int32.ofNat a)), .unset, .unset, .unset, .unset] [(.int (Int32.ofNat d)), (.int (Int32.ofNat a))])) (by rw [ed]) ?_
  refine go (T' := T1019) (g' := (mkF m 89 #[.val (.long q1), .second, .val (.int p1), .val (.int p2), .val (.int p3), .val (.int p4), .val (.ref a1), .val (.int (Int32.ofNat a)), .unset, .unset, .unset, .unset] [(.int ((Int32.ofNat a) + (Int32.ofNat d)))])) (fun t kt => XS.iadd X1019.here hx rfl (hb hby at_88) rfl kt) ?_
  refine goEq (g' := (mkF m 89 #[.val (.long q1), .second, .val (.int p1), .val (.int p2), .val (.int p3), .val (.int p4), .val (.ref a1), .val (.int (Int32.ofNat a)), .unset, .unset, .unset, .unset] [(.int (Int32.ofNat (a + d)))])) (by rw [nn_add]) ?_
  refine go (T' := T1019) (g' := (mkF m 91 #[.val (.long q1), .second, .val (.int p1), .val (.int p2), .val (.int p3), .val (.int p4), .val (.ref a1), .val (.int (Int32.ofNat a)), .val (.int (Int32.ofNat (a + d))), .unset, .unset, .unset] [])) (fun t kt => XS.istore X1019.here hx rfl (hb hby at_89) rfl (l' := #[.val (.long q1), .second, .val (.int p1), .val (.int p2), .val (.int p3), .val (.int p4), .val (.ref a1), .val (.int (Int32.ofNat a)), .val (.int (Int32.ofNat (a + d))), .unset, .unset, .unset]) rfl kt) ?_
  refine go (T' := T1019) (g' := (mkF m 92 #[.val (.long q1), .second, .val (.int p1), .val (.int p2), .val (.int p3), .val (.int p4), .val (.ref a1), .val (.int (Int32.ofNat a)), .val (.int (Int32.ofNat (a + d))), .unset, .unset, .unset] [(.int (1 : Int32))])) (fun t kt => XS.iconst X1019.here hx rfl (hb hby at_91) kt) ?_
  refine go (T' := T1019) (g' := (mkF m 94 #[.val (.long q1), .second, .val (.int p1), .val (.int p2), .val (.int p3), .val (.int p4), .val (.ref a1), .val (.int (Int32.ofNat a)), .val (.int (Int32.ofNat (a + d))), .unset, .unset, .unset] [(.int p4), (.int (1 : Int32))])) (fun t kt => XS.iload X1019.here hx rfl (hb hby at_92) rfl kt) ?_
  refine go (T' := T1019) (g' := (mkF m 96 #[.val (.long q1), .second, .val (.int p1), .val (.int p2), .val (.int p3), .val (.int p4), .val (.ref a1), .val (.int (Int32.ofNat a)), .val (.int (Int32.ofNat (a + d))), .unset, .unset, .unset] [(.int (7 : Int32)), (.int p4), (.int (1 : Int32))])) (fun t kt => XS.bipush X1019.here hx rfl (hb hby at_94) kt) ?_
  refine go (T' := T1019) (g' := (mkF m 97 #[.val (.long q1), .second, .val (.int p1), .val (.int p2), .val (.int p3), .val (.int p4), .val (.ref a1), .val (.int (Int32.ofNat a)), .val (.int (Int32.ofNat (a + d))), .unset, .unset, .unset] [(.int (p4 &&& (7 : Int32))), (.int (1 : Int32))])) (fun t kt => XS.iand X1019.here hx rfl (hb hby at_96) rfl kt) ?_
  obtain ⟨j, hj, ej⟩ : ∃ i, i ≤ 7 ∧ p4 &&& (7 : Int32) = Int32.ofNat i := own_andk p4 (k := 7) (by decide)
  refine goEq (g' := (mkF m 97 #[.val (.long q1), .second, .val (.int p1), .val (.int p2), .val (.int p3), .val (.int p4), .val (.ref a1), .val (.int (Int32.ofNat a)), .val (.int (Int32.ofNat (a + d))), .unset, .unset, .unset] [(.int (Int32.ofNat j)), (.int (1 : Int32))])) (by rw [ej]) ?_
  refine go (T' := T1019) (g' := (mkF m 98 #[.val (.long q1), .second, .val (.int p1), .val (.int p2), .val (.int p3), .val (.int p4), .val (.ref a1), .val (.int (Int32.ofNat a)), .val (.int (Int32.ofNat (a + d))), .unset, .unset, .unset] [(.int ((1 : Int32) + (Int32.ofNat j)))])) (fun t kt => XS.iadd X1019.here hx rfl (hb hby at_97) rfl kt) ?_
  refine goEq (g' := (mkF m 98 #[.val (.long q1), .second, .val (.int p1), .val (.int p2), .val (.int p3), .val (.int p4), .val (.ref a1), .val (.int (Int32.ofNat a)), .val (.int (Int32.ofNat (a + d))), .unset, .unset, .unset] [(.int (Int32.ofNat (1 + j)))])) (by rw [show (1 : Int32) + Int32.ofNat j = Int32.ofNat (1 + j) from nn_add 1 j]) ?_
  refine go (T' := T1019) (g' := (mkF m 100 #[.val (.long q1), .second, .val (.int p1), .val (.int p2), .val (.int p3), .val (.int p4), .val (.ref a1), .val (.int (Int32.ofNat a)), .val (.int (Int32.ofNat (a + d))), .val (.int (Int32.ofNat (1 + j))), .unset, .unset] [])) (fun t kt => XS.istore X1019.here hx rfl (hb hby at_98) rfl (l' := #[.val (.long q1), .second, .val (.int p1), .val (.int p2), .val (.int p3), .val (.int p4), .val (.ref a1), .val (.int (Int32.ofNat a)), .val (.int (Int32.ofNat (a + d))), .val (.int (Int32.ofNat (1 + j))), .unset, .unset]) rfl kt) ?_
  refine go (T' := T1019) (g' := (mkF m 102 #[.val (.long q1), .second, .val (.int p1), .val (.int p2), .val (.int p3), .val (.int p4), .val (.ref a1), .val (.int (Int32.ofNat a)), .val (.int (Int32.ofNat (a + d))), .val (.int (Int32.ofNat (1 + j))), .unset, .unset] [(.ref a1)])) (fun t kt => XS.aload X1019.here hx rfl (hb hby at_100) rfl rfl kt) ?_
  refine go (T' := T1019) (g' := (mkF m 104 #[.val (.long q1), .second, .val (.int p1), .val (.int p2), .val (.int p3), .val (.int p4), .val (.ref a1), .val (.int (Int32.ofNat a)), .val (.int (Int32.ofNat (a + d))), .val (.int (Int32.ofNat (1 + j))), .unset, .unset] [(.int (Int32.ofNat a)), (.ref a1)])) (fun t kt => XS.iload X1019.here hx rfl (hb hby at_102) rfl kt) ?_
  refine go (T' := T1019) (g' := (mkF m 106 #[.val (.long q1), .second, .val (.int p1), .val (.int p2), .val (.int p3), .val (.int p4), .val (.ref a1), .val (.int (Int32.ofNat a)), .val (.int (Int32.ofNat (a + d))), .val (.int (Int32.ofNat (1 + j))), .unset, .unset] [(.int (Int32.ofNat (a + d))), (.int (Int32.ofNat a)), (.ref a1)])) (fun t kt => XS.iload X1019.here hx rfl (hb hby at_104) rfl kt) ?_
  refine go (T' := T1019) (g' := (mkF m 108 #[.val (.long q1), .second, .val (.int p1), .val (.int p2), .val (.int p3), .val (.int p4), .val (.ref a1), .val (.int (Int32.ofNat a)), .val (.int (Int32.ofNat (a + d))), .val (.int (Int32.ofNat (1 + j))), .unset, .unset] [(.int (Int32.ofNat (1 + j))), (.int (Int32.ofNat (a + d))), (.int (Int32.ofNat a)), (.ref a1)])) (fun t kt => XS.iload X1019.here hx rfl (hb hby at_106) rfl kt) ?_
  obtain ⟨z, ez⟩ : ∃ z, z = own_fl g (1 + j) (a + d - a) a 0 := ⟨_, rfl⟩
  have sp := own_spec g (1 + j) (a + d - a) a 0 (by omega)
  rw [← ez] at sp
  obtain ⟨s1, s2, s3, s4⟩ := sp
  obtain ⟨_, _, ⟨T1020, L1020, k1020, n1020⟩, -, X1020, ⟨Lc1020, hQ1020, l1020, y1020, z1020⟩, st1020⟩ := Jvm.LawKit.callS X1019 hx (y := (⟨"com/example/tallyward/tallyward/io/Csv", "fieldsLength", "([BIII)I"⟩ : MethodName)) hown (mvT hZ (hw _ (List.mem_of_getElem? (i := 6) rfl))) (mvT hZ (hw _ (List.mem_of_getElem? (i := 7) rfl))) (mvT hZ (hw _ (List.mem_of_getElem? (i := 8) rfl))) (mvT hZ (hw _ (List.mem_of_getElem? (i := 9) rfl))) (by decide) (backOf (W := 0) (rm2 l Z a0 hw [] a1 (Int32.ofNat a) (Int32.ofNat (a + d)) (Int32.ofNat (1 + j)) g a (a + d) (1 + j) h1019 n0 z1019 V1 rfl rfl rfl (by omega) (by omega) (by omega) (by omega)) hZ (hw _ (List.mem_of_getElem? (i := 9) rfl)) (hw _ (List.mem_of_getElem? (i := 8) rfl)) (by decide) (by decide)) (g := (mkF m 108 #[.val (.long q1), .second, .val (.int p1), .val (.int p2), .val (.int p3), .val (.int p4), .val (.ref a1), .val (.int (Int32.ofNat a)), .val (.int (Int32.ofNat (a + d))), .val (.int (Int32.ofNat (1 + j))), .unset, .unset] [(.int (Int32.ofNat (1 + j))), (.int (Int32.ofNat (a + d))), (.int (Int32.ofNat a)), (.ref a1)])) rfl (by rw [hml]; rfl) (argsL := [(.ref a1), (.int (Int32.ofNat a)), (.int (Int32.ofNat (a + d))), (.int (Int32.ofNat (1 + j)))]) (rest := []) (lenOf pd_0 rfl) rfl (by show 2 * 0 + _ ≤ _; exact Nat.le_of_eq rfl) (hb hby at_108) (fun _ _ => ⟨rfl, e1019, (by decide : 1 + 0 ≤ _), (by decide : 6 + 0 ≤ _)⟩)
  dsimp only [Pt.U, Pt.locs, Pt.cells, Pt.slots] at X1020 l1020 y1020 z1020 st1020 hQ1020
  subst l1020 y1020 z1020
  obtain ⟨rfl, N1020q, e1020⟩ := hQ1020
  have N1020 := Fr.app N1019 N1020q
  refine go (T' := T1020) (g' := (mkF m 111 #[.val (.long q1), .second, .val (.int p1), .val (.int p2), .val (.int p3), .val (.int p4), .val (.ref a1), .val (.int (Int32.ofNat a)), .val (.int (Int32.ofNat (a + d))), .val (.int (Int32.ofNat (1 + j))), .unset, .unset] [(.int (Int32.ofNat (own_fl g (1 + j) (a + d - a) a 0 - a)))])) st1020 ?_
  refine goEq (g' := (mkF m 111 #[.val (.long q1), .second, .val (.int p1), .val (.int p2), .val (.int p3), .val (.int p4), .val (.ref a1), .val (.int (Int32.ofNat a)), .val (.int (Int32.ofNat (a + d))), .val (.int (Int32.ofNat (1 + j))), .unset, .unset] [(.int (Int32.ofNat (z - a)))])) (by rw [ez]) ?_
  refine go (T' := T1020) (g' := (mkF m 113 #[.val (.long q1), .second, .val (.int p1), .val (.int p2), .val (.int p3), .val (.int p4), .val (.ref a1), .val (.int (Int32.ofNat a)), .val (.int (Int32.ofNat (a + d))), .val (.int (Int32.ofNat (1 + j))), .val (.int (Int32.ofNat (z - a))), .unset] [])) (fun t kt => XS.istore X1020.here hx rfl (hb hby at_111) rfl (l' := #[.val (.long q1), .second, .val (.int p1), .val (.int p2), .val (.int p3), .val (.int p4), .val (.ref a1), .val (.int (Int32.ofNat a)), .val (.int (Int32.ofNat (a + d))), .val (.int (Int32.ofNat (1 + j))), .val (.int (Int32.ofNat (z - a))), .unset]) rfl kt) ?_
  refine go (T' := T1020) (g' := (mkF m 115 #[.val (.long q1), .second, .val (.int p1), .val (.int p2), .val (.int p3), .val (.int p4), .val (.ref a1), .val (.int (Int32.ofNat a)), .val (.int (Int32.ofNat (a + d))), .val (.int (Int32.ofNat (1 + j))), .val (.int (Int32.ofNat (z - a))), .unset] [(.int (Int32.ofNat (a + d)))])) (fun t kt => XS.iload X1020.here hx rfl (hb hby at_113) rfl kt) ?_
  refine go (T' := T1020) (g' := (mkF m 117 #[.val (.long q1), .second, .val (.int p1), .val (.int p2), .val (.int p3), .val (.int p4), .val (.ref a1), .val (.int (Int32.ofNat a)), .val (.int (Int32.ofNat (a + d))), .val (.int (Int32.ofNat (1 + j))), .val (.int (Int32.ofNat (z - a))), .unset] [(.int (Int32.ofNat a)), (.int (Int32.ofNat (a + d)))])) (fun t kt => XS.iload X1020.here hx rfl (hb hby at_115) rfl kt) ?_
  refine go (T' := T1020) (g' := (mkF m 118 #[.val (.long q1), .second, .val (.int p1), .val (.int p2), .val (.int p3), .val (.int p4), .val (.ref a1), .val (.int (Int32.ofNat a)), .val (.int (Int32.ofNat (a + d))), .val (.int (Int32.ofNat (1 + j))), .val (.int (Int32.ofNat (z - a))), .unset] [(.int ((Int32.ofNat (a + d)) - (Int32.ofNat a)))])) (fun t kt => XS.isub X1020.here hx rfl (hb hby at_117) rfl kt) ?_
  refine goEq (g' := (mkF m 118 #[.val (.long q1), .second, .val (.int p1), .val (.int p2), .val (.int p3), .val (.int p4), .val (.ref a1), .val (.int (Int32.ofNat a)), .val (.int (Int32.ofNat (a + d))), .val (.int (Int32.ofNat (1 + j))), .val (.int (Int32.ofNat (z - a))), .unset] [(.int (Int32.ofNat d))])) (by rw [nn_sub (by omega), show a + d - a = d by omega]) ?_
  refine go (T' := T1020) (g' := (mkF m 120 #[.val (.long q1), .second, .val (.int p1), .val (.int p2), .val (.int p3), .val (.int p4), .val (.ref a1), .val (.int (Int32.ofNat a)), .val (.int (Int32.ofNat (a + d))), .val (.int (Int32.ofNat (1 + j))), .val (.int (Int32.ofNat (z - a))), .val (.int (Int32.ofNat d))] [])) (fun t kt => XS.istore X1020.here hx rfl (hb hby at_118) rfl (l' := #[.val (.long q1), .second, .val (.int p1), .val (.int p2), .val (.int p3), .val (.int p4), .val (.ref a1), .val (.int (Int32.ofNat a)), .val (.int (Int32.ofNat (a + d))), .val (.int (Int32.ofNat (1 + j))), .val (.int (Int32.ofNat (z - a))), .val (.int (Int32.ofNat d))]) rfl kt) ?_
  refine go (T' := T1020) (g' := (mkF m 122 #[.val (.long q1), .second, .val (.int p1), .val (.int p2), .val (.int p3), .val (.int p4), .val (.ref a1), .val (.int (Int32.ofNat a)), .val (.int (Int32.ofNat (a + d))), .val (.int (Int32.ofNat (1 + j))), .val (.int (Int32.ofNat (z - a))), .val (.int (Int32.ofNat d))] [(.int (Int32.ofNat (z - a)))])) (fun t kt => XS.iload X1020.here hx rfl (hb hby at_120) rfl kt) ?_
  refine go (T' := T1020) (g' := (mkF m 125 #[.val (.long q1), .second, .val (.int p1), .val (.int p2), .val (.int p3), .val (.int p4), .val (.ref a1), .val (.int (Int32.ofNat a)), .val (.int (Int32.ofNat (a + d))), .val (.int (Int32.ofNat (1 + j))), .val (.int (Int32.ofNat (z - a))), .val (.int (Int32.ofNat d))] [])) (fun t kt => XS.ifNo X1020.here hx rfl (hb hby at_122) rfl ((if0 _ _).trans (flt (nn_neg (by omega))).1) kt) ?_
  refine go (T' := T1020) (g' := (mkF m 127 #[.val (.long q1), .second, .val (.int p1), .val (.int p2), .val (.int p3), .val (.int p4), .val (.ref a1), .val (.int (Int32.ofNat a)), .val (.int (Int32.ofNat (a + d))), .val (.int (Int32.ofNat (1 + j))), .val (.int (Int32.ofNat (z - a))), .val (.int (Int32.ofNat d))] [(.int (Int32.ofNat (z - a)))])) (fun t kt => XS.iload X1020.here hx rfl (hb hby at_125) rfl kt) ?_
  refine go (T' := T1020) (g' := (mkF m 129 #[.val (.long q1), .second, .val (.int p1), .val (.int p2), .val (.int p3), .val (.int p4), .val (.ref a1), .val (.int (Int32.ofNat a)), .val (.int (Int32.ofNat (a + d))), .val (.int (Int32.ofNat (1 + j))), .val (.int (Int32.ofNat (z - a))), .val (.int (Int32.ofNat d))] [(.int (Int32.ofNat d)), (.int (Int32.ofNat (z - a)))])) (fun t kt => XS.iload X1020.here hx rfl (hb hby at_127) rfl kt) ?_
  refine go (T' := T1020) (g' := (mkF m 134 #[.val (.long q1), .second, .val (.int p1), .val (.int p2), .val (.int p3), .val (.int p4), .val (.ref a1), .val (.int (Int32.ofNat a)), .val (.int (Int32.ofNat (a + d))), .val (.int (Int32.ofNat (1 + j))), .val (.int (Int32.ofNat (z - a))), .val (.int (Int32.ofNat d))] [])) (fun t kt => XS.icmpYes X1020.here hx rfl (pc0 := 129) (pc' := 134) rfl (hb hby at_129) rfl (flt (fun r => by have := (nn_lt (by omega) (by omega)).mp r; omega)).2.2.2 (by decide) (by decide) kt) ?_
  refine go (T' := T1020) (g' := (mkF m 136 #[.val (.long q1), .second, .val (.int p1), .val (.int p2), .val (.int p3), .val (.int p4), .val (.ref a1), .val (.int (Int32.ofNat a)), .val (.int (Int32.ofNat (a + d))), .val (.int (Int32.ofNat (1 + j))), .val (.int (Int32.ofNat (z - a))), .val (.int (Int32.ofNat d))] [(.ref a1)])) (fun t kt => XS.aload X1020.here hx rfl (hb hby at_134) rfl rfl kt) ?_
  refine go (T' := T1020) (g' := (mkF m 138 #[.val (.long q1), .second, .val (.int p1), .val (.int p2), .val (.int p3), .val (.int p4), .val (.ref a1), .val (.int (Int32.ofNat a)), .val (.int (Int32.ofNat (a + d))), .val (.int (Int32.ofNat (1 + j))), .val (.int (Int32.ofNat (z - a))), .val (.int (Int32.ofNat d))] [(.int (Int32.ofNat a)), (.ref a1)])) (fun t kt => XS.iload X1020.here hx rfl (hb hby at_136) rfl kt) ?_
  refine go (T' := T1020) (g' := (mkF m 140 #[.val (.long q1), .second, .val (.int p1), .val (.int p2), .val (.int p3), .val (.int p4), .val (.ref a1), .val (.int (Int32.ofNat a)), .val (.int (Int32.ofNat (a + d))), .val (.int (Int32.ofNat (1 + j))), .val (.int (Int32.ofNat (z - a))), .val (.int (Int32.ofNat d))] [(.int (Int32.ofNat (a + d))), (.int (Int32.ofNat a)), (.ref a1)])) (fun t kt => XS.iload X1020.here hx rfl (hb hby at_138) rfl kt) ?_
  obtain ⟨_, _, ⟨T1021, L1021, k1021, n1021⟩, -, X1021, ⟨Lc1021, hQ1021, l1021, y1021, z1021⟩, st1021⟩ := Jvm.LawKit.callS X1020 hx (y := (⟨"com/example/tallyward/tallyward/io/CsvFieldsLengthPinLaw", "commas", "([BII)I"⟩ : MethodName)) hown (mvT hZ (hw _ (List.mem_of_getElem? (i := 10) rfl))) (mvT hZ (hw _ (List.mem_of_getElem? (i := 11) rfl))) (mvT hZ (hw _ (List.mem_of_getElem? (i := 3) rfl))) (mvT hZ (hw _ (List.mem_of_getElem? (i := 12) rfl))) (by decide) (backOf (W := 0) (rm3 l Z a0 hw [] a1 (Int32.ofNat a) (Int32.ofNat (a + d)) g a (a + d) h1019 n0 z1019 V1 rfl rfl (by omega) (by omega)) hZ (hw _ (List.mem_of_getElem? (i := 12) rfl)) (hw _ (List.mem_of_getElem? (i := 3) rfl)) (by decide) (by decide)) (g := (mkF m 140 #[.val (.long q1), .second, .val (.int p1), .val (.int p2), .val (.int p3), .val (.int p4), .val (.ref a1), .val (.int (Int32.ofNat a)), .val (.int (Int32.ofNat (a + d))), .val (.int (Int32.ofNat (1 + j))), .val (.int (Int32.ofNat (z - a))), .val (.int (Int32.ofNat d))] [(.int (Int32.ofNat (a + d))), (.int (Int32.ofNat a)), (.ref a1)])) rfl (by rw [hml]; rfl) (argsL := [(.ref a1), (.int (Int32.ofNat a)), (.int (Int32.ofNat (a + d)))]) (rest := []) (lenOf pd_2 rfl) rfl (by show 2 * 0 + _ ≤ _; exact Nat.le_of_eq rfl) (hb hby at_140) (fun _ _ => ⟨rfl, e1020, (by decide : 1 + 0 ≤ _), (by decide : 6 + 0 ≤ _)⟩)
  dsimp only [Pt.U, Pt.locs, Pt.cells, Pt.slots] at X1021 l1021 y1021 z1021 st1021 hQ1021
  subst l1021 y1021 z1021
  obtain ⟨rfl, N1021q, e1021⟩ := hQ1021
  have N1021 := Fr.app N1020 N1021q
  refine go (T' := T1021) (g' := (mkF m 143 #[.val (.long q1), .second, .val (.int p1), .val (.int p2), .val (.int p3), .val (.int p4), .val (.ref a1), .val (.int (Int32.ofNat a)), .val (.int (Int32.ofNat (a + d))), .val (.int (Int32.ofNat (1 + j))), .val (.int (Int32.ofNat (z - a))), .val (.int (Int32.ofNat d))] [(.int (Int32.ofNat (own_com g a (a + d))))])) st1021 ?_
  have cl := own_comle g a (a + d)
  have cc := own_comc g (show a ≤ a + d by omega) (by omega)
  rw [← cc] at s3 s4
  refine go (T' := T1021) (g' := (mkF m 145 #[.val (.long q1), .second, .val (.int p1), .val (.int p2), .val (.int p3), .val (.int p4), .val (.ref a1), .val (.int (Int32.ofNat a)), .val (.int (Int32.ofNat (a + d))), .val (.int (Int32.ofNat (1 + j))), .val (.int (Int32.ofNat (z - a))), .val (.int (Int32.ofNat d))] [(.int (Int32.ofNat (1 + j))), (.int (Int32.ofNat (own_com g a (a + d))))])) (fun t kt => XS.iload X1021.here hx rfl (hb hby at_143) rfl kt) ?_
  by_cases hcq : (Int32.ofNat (own_com g a (a + d))) < (Int32.ofNat (1 + j))
  · refine go (T' := T1021) (g' := (mkF m 148 #[.val (.long q1), .second, .val (.int p1), .val (.int p2), .val (.int p3), .val (.int p4), .val (.ref a1), .val (.int (Int32.ofNat a)), .val (.int (Int32.ofNat (a + d))), .val (.int (Int32.ofNat (1 + j))), .val (.int (Int32.ofNat (z - a))), .val (.int (Int32.ofNat d))] [])) (fun t kt => XS.icmpNo X1021.here hx rfl (hb hby at_145) rfl (tlt hcq).2.1 kt) ?_
    have kq := (nn_lt (by omega) (by omega)).mp hcq
    have s5 := s3 (by omega)
    refine go (T' := T1021) (g' := (mkF m 150 #[.val (.long q1), .second, .val (.int p1), .val (.int p2), .val (.int p3), .val (.int p4), .val (.ref a1), .val (.int (Int32.ofNat a)), .val (.int (Int32.ofNat (a + d))), .val (.int (Int32.ofNat (1 + j))), .val (.int (Int32.ofNat (z - a))), .val (.int (Int32.ofNat d))] [(.int (Int32.ofNat (z - a)))])) (fun t kt => XS.iload X1021.here hx rfl (hb hby at_148) rfl kt) ?_
    refine go (T' := T1021) (g' := (mkF m 152 #[.val (.long q1), .second, .val (.int p1), .val (.int p2), .val (.int p3), .val (.int p4), .val (.ref a1), .val (.int (Int32.ofNat a)), .val (.int (Int32.ofNat (a + d))), .val (.int (Int32.ofNat (1 + j))), .val (.int (Int32.ofNat (z - a))), .val (.int (Int32.ofNat d))] [(.int (Int32.ofNat d)), (.int (Int32.ofNat (z - a)))])) (fun t kt => XS.iload X1021.here hx rfl (hb hby at_150) rfl kt) ?_
    refine go (T' := T1021) (g' := (mkF m 155 #[.val (.long q1), .second, .val (.int p1), .val (.int p2), .val (.int p3), .val (.int p4), .val (.ref a1), .val (.int (Int32.ofNat a)), .val (.int (Int32.ofNat (a + d))), .val (.int (Int32.ofNat (1 + j))), .val (.int (Int32.ofNat (z - a))), .val (.int (Int32.ofNat d))] [])) (fun t kt => XS.icmpNo X1021.here hx rfl (hb hby at_152) rfl (teq (by rw [s5, show a + (a + d - a) - a = d by omega])).2 kt) ?_
    refine go (T' := T1021) (g' := (mkF m 156 #[.val (.long q1), .second, .val (.int p1), .val (.int p2), .val (.int p3), .val (.int p4), .val (.ref a1), .val (.int (Int32.ofNat a)), .val (.int (Int32.ofNat (a + d))), .val (.int (Int32.ofNat (1 + j))), .val (.int (Int32.ofNat (z - a))), .val (.int (Int32.ofNat d))] [(.int (1 : Int32))])) (fun t kt => XS.iconst X1021.here hx rfl (hb hby at_155) kt) ?_
    refine go (T' := T1021) (g' := (mkF m 160 #[.val (.long q1), .second, .val (.int p1), .val (.int p2), .val (.int p3), .val (.int p4), .val (.ref a1), .val (.int (Int32.ofNat a)), .val (.int (Int32.ofNat (a + d))), .val (.int (Int32.ofNat (1 + j))), .val (.int (Int32.ofNat (z - a))), .val (.int (Int32.ofNat d))] [(.int (1 : Int32))])) (fun t kt => XS.goto X1021.here hx rfl (pc0 := 156) (pc' := 160) rfl (hb hby at_156) (by decide) (by decide) kt) ?_
    refine goRetN X1021 hx hlk (t := .boolean) Bd.returns (by simp) (hb hby at_160) ?_ (by decide) (by decide)
    rw [e1021]
    exact ⟨rfl, N1021⟩
  · refine go (T' := T1021) (g' := (mkF m 161 #[.val (.long q1), .second, .val (.int p1), .val (.int p2), .val (.int p3), .val (.int p4), .val (.ref a1), .val (.int (Int32.ofNat a)), .val (.int (Int32.ofNat (a + d))), .val (.int (Int32.ofNat (1 + j))), .val (.int (Int32.ofNat (z - a))), .val (.int (Int32.ofNat d))] [])) (fun t kt => XS.icmpYes X1021.here hx rfl (pc0 := 145) (pc' := 161) rfl (hb hby at_145) rfl (flt hcq).2.1 (by decide) (by decide) kt) ?_
    have kq : ¬ own_com g a (a + d) < 1 + j := fun r => hcq ((nn_lt (by omega) (by omega)).mpr r)
    obtain ⟨s5, s6, s7⟩ := s4 (by omega)
    refine go (T' := T1021) (g' := (mkF m 163 #[.val (.long q1), .second, .val (.int p1), .val (.int p2), .val (.int p3), .val (.int p4), .val (.ref a1), .val (.int (Int32.ofNat a)), .val (.int (Int32.ofNat (a + d))), .val (.int (Int32.ofNat (1 + j))), .val (.int (Int32.ofNat (z - a))), .val (.int (Int32.ofNat d))] [(.int (Int32.ofNat (z - a)))])) (fun t kt => XS.iload X1021.here hx rfl (hb hby at_161) rfl kt) ?_
    refine go (T' := T1021) (g' := (mkF m 164 #[.val (.long q1), .second, .val (.int p1), .val (.int p2), .val (.int p3), .val (.int p4), .val (.ref a1), .val (.int (Int32.ofNat a)), .val (.int (Int32.ofNat (a + d))), .val (.int (Int32.ofNat (1 + j))), .val (.int (Int32.ofNat (z - a))), .val (.int (Int32.ofNat d))] [(.int (1 : Int32)), (.int (Int32.ofNat (z - a)))])) (fun t kt => XS.iconst X1021.here hx rfl (hb hby at_163) kt) ?_
    refine go (T' := T1021) (g' := (mkF m 169 #[.val (.long q1), .second, .val (.int p1), .val (.int p2), .val (.int p3), .val (.int p4), .val (.ref a1), .val (.int (Int32.ofNat a)), .val (.int (Int32.ofNat (a + d))), .val (.int (Int32.ofNat (1 + j))), .val (.int (Int32.ofNat (z - a))), .val (.int (Int32.ofNat d))] [])) (fun t kt => XS.icmpYes X1021.here hx rfl (pc0 := 164) (pc' := 169) rfl (hb hby at_164) rfl (flt (fun r => by have := (nn_lt (j := 1) (by omega) (by omega)).mp r; omega)).2.1 (by decide) (by decide) kt) ?_
    refine go (T' := T1021) (g' := (mkF m 171 #[.val (.long q1), .second, .val (.int p1), .val (.int p2), .val (.int p3), .val (.int p4), .val (.ref a1), .val (.int (Int32.ofNat a)), .val (.int (Int32.ofNat (a + d))), .val (.int (Int32.ofNat (1 + j))), .val (.int (Int32.ofNat (z - a))), .val (.int (Int32.ofNat d))] [(.ref a1)])) (fun t kt => XS.aload X1021.here hx rfl (hb hby at_169) rfl rfl kt) ?_
    refine go (T' := T1021) (g' := (mkF m 173 #[.val (.long q1), .second, .val (.int p1), .val (.int p2), .val (.int p3), .val (.int p4), .val (.ref a1), .val (.int (Int32.ofNat a)), .val (.int (Int32.ofNat (a + d))), .val (.int (Int32.ofNat (1 + j))), .val (.int (Int32.ofNat (z - a))), .val (.int (Int32.ofNat d))] [(.int (Int32.ofNat a)), (.ref a1)])) (fun t kt => XS.iload X1021.here hx rfl (hb hby at_171) rfl kt) ?_
    refine go (T' := T1021) (g' := (mkF m 175 #[.val (.long q1), .second, .val (.int p1), .val (.int p2), .val (.int p3), .val (.int p4), .val (.ref a1), .val (.int (Int32.ofNat a)), .val (.int (Int32.ofNat (a + d))), .val (.int (Int32.ofNat (1 + j))), .val (.int (Int32.ofNat (z - a))), .val (.int (Int32.ofNat d))] [(.int (Int32.ofNat (z - a))), (.int (Int32.ofNat a)), (.ref a1)])) (fun t kt => XS.iload X1021.here hx rfl (hb hby at_173) rfl kt) ?_
    refine go (T' := T1021) (g' := (mkF m 176 #[.val (.long q1), .second, .val (.int p1), .val (.int p2), .val (.int p3), .val (.int p4), .val (.ref a1), .val (.int (Int32.ofNat a)), .val (.int (Int32.ofNat (a + d))), .val (.int (Int32.ofNat (1 + j))), .val (.int (Int32.ofNat (z - a))), .val (.int (Int32.ofNat d))] [(.int ((Int32.ofNat a) + (Int32.ofNat (z - a)))), (.ref a1)])) (fun t kt => XS.iadd X1021.here hx rfl (hb hby at_175) rfl kt) ?_
    refine go (T' := T1021) (g' := (mkF m 177 #[.val (.long q1), .second, .val (.int p1), .val (.int p2), .val (.int p3), .val (.int p4), .val (.ref a1), .val (.int (Int32.ofNat a)), .val (.int (Int32.ofNat (a + d))), .val (.int (Int32.ofNat (1 + j))), .val (.int (Int32.ofNat (z - a))), .val (.int (Int32.ofNat d))] [(.int (1 : Int32)), (.int ((Int32.ofNat a) + (Int32.ofNat (z - a)))), (.ref a1)])) (fun t kt => XS.iconst X1021.here hx rfl (hb hby at_176) kt) ?_
    refine go (T' := T1021) (g' := (mkF m 178 #[.val (.long q1), .second, .val (.int p1), .val (.int p2), .val (.int p3), .val (.int p4), .val (.ref a1), .val (.int (Int32.ofNat a)), .val (.int (Int32.ofNat (a + d))), .val (.int (Int32.ofNat (1 + j))), .val (.int (Int32.ofNat (z - a))), .val (.int (Int32.ofNat d))] [(.int (((Int32.ofNat a) + (Int32.ofNat (z - a))) - (1 : Int32))), (.ref a1)])) (fun t kt => XS.isub X1021.here hx rfl (hb hby at_177) rfl kt) ?_
    refine goEq (g' := (mkF m 178 #[.val (.long q1), .second, .val (.int p1), .val (.int p2), .val (.int p3), .val (.int p4), .val (.ref a1), .val (.int (Int32.ofNat a)), .val (.int (Int32.ofNat (a + d))), .val (.int (Int32.ofNat (1 + j))), .val (.int (Int32.ofNat (z - a))), .val (.int (Int32.ofNat d))] [(.int (Int32.ofNat (z - 1))), (.ref a1)])) (by rw [nn_add, show Int32.ofNat (a + (z - a)) - (1 : Int32) = Int32.ofNat (a + (z - a) - 1) from nn_sub (j := 1) (by omega), show a + (z - a) - 1 = z - 1 by omega]) ?_
    refine go (T' := T1021) (g' := (mkF m 179 #[.val (.long q1), .second, .val (.int p1), .val (.int p2), .val (.int p3), .val (.int p4), .val (.ref a1), .val (.int (Int32.ofNat a)), .val (.int (Int32.ofNat (a + d))), .val (.int (Int32.ofNat (1 + j))), .val (.int (Int32.ofNat (z - a))), .val (.int (Int32.ofNat d))] [(.int (g (z - 1)))])) (fun t kt => own_ldB X1021 hx hZ e1021 V1 (j := (Int32.ofNat (z - 1))) ⟨nn_neg (by omega), (nn_lt (j := 6) (by omega) (by omega)).mpr (by omega)⟩ (v := (.int (g (z - 1)))) (by show Value.int (g _) = _; rw [nn_nat (by omega)]) (g := (mkF m 178 #[.val (.long q1), .second, .val (.int p1), .val (.int p2), .val (.int p3), .val (.int p4), .val (.ref a1), .val (.int (Int32.ofNat a)), .val (.int (Int32.ofNat (a + d))), .val (.int (Int32.ofNat (1 + j))), .val (.int (Int32.ofNat (z - a))), .val (.int (Int32.ofNat d))] [(.int (Int32.ofNat (z - 1))), (.ref a1)])) rfl rfl (hb hby at_178) _ kt) ?_
    refine go (T' := T1021) (g' := (mkF m 181 #[.val (.long q1), .second, .val (.int p1), .val (.int p2), .val (.int p3), .val (.int p4), .val (.ref a1), .val (.int (Int32.ofNat a)), .val (.int (Int32.ofNat (a + d))), .val (.int (Int32.ofNat (1 + j))), .val (.int (Int32.ofNat (z - a))), .val (.int (Int32.ofNat d))] [(.int (44 : Int32)), (.int (g (z - 1)))])) (fun t kt => XS.bipush X1021.here hx rfl (hb hby at_179) kt) ?_
    refine go (T' := T1021) (g' := (mkF m 184 #[.val (.long q1), .second, .val (.int p1), .val (.int p2), .val (.int p3), .val (.int p4), .val (.ref a1), .val (.int (Int32.ofNat a)), .val (.int (Int32.ofNat (a + d))), .val (.int (Int32.ofNat (1 + j))), .val (.int (Int32.ofNat (z - a))), .val (.int (Int32.ofNat d))] [])) (fun t kt => XS.icmpNo X1021.here hx rfl (hb hby at_181) rfl (teq s6).2 kt) ?_
    refine go (T' := T1021) (g' := (mkF m 186 #[.val (.long q1), .second, .val (.int p1), .val (.int p2), .val (.int p3), .val (.int p4), .val (.ref a1), .val (.int (Int32.ofNat a)), .val (.int (Int32.ofNat (a + d))), .val (.int (Int32.ofNat (1 + j))), .val (.int (Int32.ofNat (z - a))), .val (.int (Int32.ofNat d))] [(.ref a1)])) (fun t kt => XS.aload X1021.here hx rfl (hb hby at_184) rfl rfl kt) ?_
    refine go (T' := T1021) (g' := (mkF m 188 #[.val (.long q1), .second, .val (.int p1), .val (.int p2), .val (.int p3), .val (.int p4), .val (.ref a1), .val (.int (Int32.ofNat a)), .val (.int (Int32.ofNat (a + d))), .val (.int (Int32.ofNat (1 + j))), .val (.int (Int32.ofNat (z - a))), .val (.int (Int32.ofNat d))] [(.int (Int32.ofNat a)), (.ref a1)])) (fun t kt => XS.iload X1021.here hx rfl (hb hby at_186) rfl kt) ?_
    refine go (T' := T1021) (g' := (mkF m 190 #[.val (.long q1), .second, .val (.int p1), .val (.int p2), .val (.int p3), .val (.int p4), .val (.ref a1), .val (.int (Int32.ofNat a)), .val (.int (Int32.ofNat (a + d))), .val (.int (Int32.ofNat (1 + j))), .val (.int (Int32.ofNat (z - a))), .val (.int (Int32.ofNat d))] [(.int (Int32.ofNat a)), (.int (Int32.ofNat a)), (.ref a1)])) (fun t kt => XS.iload X1021.here hx rfl (hb hby at_188) rfl kt) ?_
    refine go (T' := T1021) (g' := (mkF m 192 #[.val (.long q1), .second, .val (.int p1), .val (.int p2), .val (.int p3), .val (.int p4), .val (.ref a1), .val (.int (Int32.ofNat a)), .val (.int (Int32.ofNat (a + d))), .val (.int (Int32.ofNat (1 + j))), .val (.int (Int32.ofNat (z - a))), .val (.int (Int32.ofNat d))] [(.int (Int32.ofNat (z - a))), (.int (Int32.ofNat a)), (.int (Int32.ofNat a)), (.ref a1)])) (fun t kt => XS.iload X1021.here hx rfl (hb hby at_190) rfl kt) ?_
    refine go (T' := T1021) (g' := (mkF m 193 #[.val (.long q1), .second, .val (.int p1), .val (.int p2), .val (.int p3), .val (.int p4), .val (.ref a1), .val (.int (Int32.ofNat a)), .val (.int (Int32.ofNat (a + d))), .val (.int (Int32.ofNat (1 + j))), .val (.int (Int32.ofNat (z - a))), .val (.int (Int32.ofNat d))] [(.int ((Int32.ofNat a) + (Int32.ofNat (z - a)))), (.int (Int32.ofNat a)), (.ref a1)])) (fun t kt => XS.iadd X1021.here hx rfl (hb hby at_192) rfl kt) ?_
    refine goEq (g' := (mkF m 193 #[.val (.long q1), .second, .val (.int p1), .val (.int p2), .val (.int p3), .val (.int p4), .val (.ref a1), .val (.int (Int32.ofNat a)), .val (.int (Int32.ofNat (a + d))), .val (.int (Int32.ofNat (1 + j))), .val (.int (Int32.ofNat (z - a))), .val (.int (Int32.ofNat d))] [(.int (Int32.ofNat z)), (.int (Int32.ofNat a)), (.ref a1)])) (by rw [nn_add, show a + (z - a) = z by omega]) ?_
    obtain ⟨_, _, ⟨T1022, L1022, k1022, n1022⟩, -, X1022, ⟨Lc1022, hQ1022, l1022, y1022, z1022⟩, st1022⟩ := Jvm.LawKit.callS X1021 hx (y := (⟨"com/example/tallyward/tallyward/io/CsvFieldsLengthPinLaw", "commas", "([BII)I"⟩ : MethodName)) hown (mvT hZ (hw _ (List.mem_of_getElem? (i := 10) rfl))) (mvT hZ (hw _ (List.mem_of_getElem? (i := 11) rfl))) (mvT hZ (hw _ (List.mem_of_getElem? (i := 3) rfl))) (mvT hZ (hw _ (List.mem_of_getElem? (i := 12) rfl))) (by decide) (backOf (W := 0) (rm3 l Z a0 hw [] a1 (Int32.ofNat a) (Int32.ofNat z) g a z h1019 n0 z1019 V1 rfl rfl (by omega) (by omega)) hZ (hw _ (List.mem_of_getElem? (i := 12) rfl)) (hw _ (List.mem_of_getElem? (i := 3) rfl)) (by decide) (by decide)) (g := (mkF m 193 #[.val (.long q1), .second, .val (.int p1), .val (.int p2), .val (.int p3), .val (.int p4), .val (.ref a1), .val (.int (Int32.ofNat a)), .val (.int (Int32.ofNat (a + d))), .val (.int (Int32.ofNat (1 + j))), .val (.int (Int32.ofNat (z - a))), .val (.int (Int32.ofNat d))] [(.int (Int32.ofNat z)), (.int (Int32.ofNat a)), (.ref a1)])) rfl (by rw [hml]; rfl) (argsL := [(.ref a1), (.int (Int32.ofNat a)), (.int (Int32.ofNat z))]) (rest := []) (lenOf pd_2 rfl) rfl (by show 2 * 0 + _ ≤ _; exact Nat.le_of_eq rfl) (hb hby at_193) (fun _ _ => ⟨rfl, e1021, (by decide : 1 + 0 ≤ _), (by decide : 6 + 0 ≤ _)⟩)
    dsimp only [Pt.U, Pt.locs, Pt.cells, Pt.slots] at X1022 l1022 y1022 z1022 st1022 hQ1022
    subst l1022 y1022 z1022
    obtain ⟨rfl, N1022q, e1022⟩ := hQ1022
    have N1022 := Fr.app N1021 N1022q
    refine go (T' := T1022) (g' := (mkF m 196 #[.val (.long q1), .second, .val (.int p1), .val (.int p2), .val (.int p3), .val (.int p4), .val (.ref a1), .val (.int (Int32.ofNat a)), .val (.int (Int32.ofNat (a + d))), .val (.int (Int32.ofNat (1 + j))), .val (.int (Int32.ofNat (z - a))), .val (.int (Int32.ofNat d))] [(.int (Int32.ofNat (own_com g a z)))])) st1022 ?_
    refine go (T' := T1022) (g' := (mkF m 198 #[.val (.long q1), .second, .val (.int p1), .val (.int p2), .val (.int p3), .val (.int p4), .val (.ref a1), .val (.int (Int32.ofNat a)), .val (.int (Int32.ofNat (a + d))), .val (.int (Int32.ofNat (1 + j))), .val (.int (Int32.ofNat (z - a))), .val (.int (Int32.ofNat d))] [(.int (Int32.ofNat (1 + j))), (.int (Int32.ofNat (own_com g a z)))])) (fun t kt => XS.iload X1022.here hx rfl (hb hby at_196) rfl kt) ?_
    refine go (T' := T1022) (g' := (mkF m 201 #[.val (.long q1), .second, .val (.int p1), .val (.int p2), .val (.int p3), .val (.int p4), .val (.ref a1), .val (.int (Int32.ofNat a)), .val (.int (Int32.ofNat (a + d))), .val (.int (Int32.ofNat (1 + j))), .val (.int (Int32.ofNat (z - a))), .val (.int (Int32.ofNat d))] [])) (fun t kt => XS.icmpNo X1022.here hx rfl (hb hby at_198) rfl (teq (by rw [own_comc g (show a ≤ z by omega) (by omega), show own_cnt g (z - a) a = 1 + j by omega])).2 kt) ?_
    refine go (T' := T1022) (g' := (mkF m 202 #[.val (.long q1), .second, .val (.int p1), .val (.int p2), .val (.int p3), .val (.int p4), .val (.ref a1), .val (.int (Int32.ofNat a)), .val (.int (Int32.ofNat (a + d))), .val (.int (Int32.ofNat (1 + j))), .val (.int (Int32.ofNat (z - a))), .val (.int (Int32.ofNat d))] [(.int (1 : Int32))])) (fun t kt => XS.iconst X1022.here hx rfl (hb hby at_201) kt) ?_
    refine go (T' := T1022) (g' := (mkF m 206 #[.val (.long q1), .second, .val (.int p1), .val (.int p2), .val (.int p3), .val (.int p4), .val (.ref a1), .val (.int (Int32.ofNat a)), .val (.int (Int32.ofNat (a + d))), .val (.int (Int32.ofNat (1 + j))), .val (.int (Int32.ofNat (z - a))), .val (.int (Int32.ofNat d))] [(.int (1 : Int32))])) (fun t kt => XS.goto X1022.here hx rfl (pc0 := 202) (pc' := 206) rfl (hb hby at_202) (by decide) (by decide) kt) ?_
    refine goRetN X1022 hx hlk (t := .boolean) Bd.returns (by simp) (hb hby at_206) ?_ (by decide) (by decide)
    rw [e1022]
    exact ⟨rfl, N1022⟩
set_option maxRecDepth 65536 in
set_option maxHeartbeats 40000000 in
theorem comes_1 {Post : Tables → Env → Array Value → State → Outcome → State → Prop} (hpost : ∀ tb e args s v u, (limb_1_1.after args s (.returned v) u = true ∧ limb_1_2.after args s (.returned v) u = true ∧ True) → FrameEnd s (.returned v) u (Jvm.fieldLocs frame_1_writes args s ++ Jvm.arrayLocs frame_1_arrays args s ++ Jvm.staticLocs frame_1_statics s) 16 128 → Post tb e args s (.returned v) u) :
    ArmFor flags0 classFile x code maxLocals ret World_1 tables_1 room_1 Calls_1 rest_1 Pre_1 Post := by
  intro l hfl _ _ p e ha hc hk s m args below hf hA hF happ hP
  obtain ⟨hcalls, hrest, hpre⟩ := hP
  obtain ⟨-, -, -, hnamed, -, -, -, hat⟩ := (Spec.applies_iff hf).mp happ
  obtain ⟨hg, hn⟩ := and_e (Cond.before_iff.mp (show (Jvm.Cond.and given_1 narrow_1).before args s = true from hpre))
  obtain ⟨g2, g2'⟩ := and_e hg
  obtain ⟨g4, g4'⟩ := and_e g2'
  obtain ⟨g6, g6'⟩ := and_e g4'
  obtain ⟨g8, g8'⟩ := and_e g6'
  obtain ⟨g10, g10'⟩ := and_e g8'
  obtain ⟨w0, w1, w2, w3, w4, rfl⟩ : ∃ w0 w1 w2 w3 w4 : Value, args = #[w0, w1, w2, w3, w4] := by
    have hs : args.size = 5 := by simpa [Cond.value, given_1] using g2
    obtain ⟨L⟩ := args
    match L, hs with
    | [w0, w1, w2, w3, w4], _ => exact ⟨w0, w1, w2, w3, w4, rfl⟩
  have hw := fun d (hd : d ∈ tables_1) => atoms_spec (ws := Jvm.Cond.code x code maxLocals ret :: tables_1) hat d (List.mem_cons_of_mem _ hd)
  have hfit : Fit s := fun {y c} hc i hi => by
    obtain ⟨ha, rfl⟩ := Array.getElem?_eq_some_iff.mp hc
    have q := List.all_eq_true.mp ((Array.all_eq_true_iff_forall_mem.mp hF) _ (Array.getElem_mem ha)) i (List.mem_range.mpr hi)
    simpa [Array.getElem?_eq_getElem hi] using q
  obtain ⟨i0, ei0⟩ := isL_v g4
  obtain rfl : w0 = (.long i0) := Option.some.inj ei0
  obtain ⟨i1, ei1⟩ := is_v g6
  obtain rfl : w1 = (.int i1) := Option.some.inj ei1
  obtain ⟨i2, ei2⟩ := is_v g8
  obtain rfl : w2 = (.int i2) := Option.some.inj ei2
  obtain ⟨i3, ei3⟩ := is_v g10
  obtain rfl : w3 = (.int i3) := Option.some.inj ei3
  obtain ⟨i4, ei4⟩ := is_v g10'
  obtain rfl : w4 = (.int i4) := Option.some.inj ei4
  obtain ⟨n, o, h1, h2, h3, _, L, rfl, ⟨rfl, N⟩, hq⟩ := rm0 l s _ hw tables_1 i0 i1 i2 i3 i4 s.heap s.heap.size (Nat.le_refl _) p e ha hc hk s m _ below hf ((Spec.applies_iff_loose hf).mp happ).1 ⟨rfl, State.Warmed39.refl s, rfl⟩ trivial
  refine ⟨n, _, h1, h2, h3, hpost _ _ _ _ _ _ ⟨Cond.after_iff.mpr rfl, Cond.after_iff.mpr (eq_i res_at (Term.int_eval (1)) rfl), trivial⟩ ⟨hq.1, hq.2.1, (hq.2.2.sift fun y hy => Or.inr (N y hy)).mono (by decide) (by decide)⟩⟩
theorem main_1_1 : Claimed_1_1 := comes_1 fun _ _ _ _ _ _ h hF => ⟨h.1, hF⟩
theorem main_1_2 : Claimed_1_2 := comes_1 fun _ _ _ _ _ _ h hF => ⟨h.2.1, hF⟩
end Jvm.Pilot.@@N@@
namespace Jvm.Pilot.@@N@@
open Jvm Jvm.ClassFile Sem Op Lib Jvm.Free Jvm.Stand Jvm.Pilot.@@N@@.Jvm.D
/-! MADE BY PROGRAM (witnessworld.py) out of the Statement's table words and the real class files: 9 classes; the members and pool entries that the words name. The judged class is class 1, her method 4. -/
namespace start1
open Jvm.ClassFile
def u (s : String) : CpInfo := .utf8 (stringToUtf16 s)
/-- a pool by its gaps: so many unusable entries, then the entry; so many at the end -/
def gap : Nat → List CpInfo → List CpInfo
  | 0, r => r
  | n + 1, r => .unusable :: gap n r
def poolList (es : List (Nat × CpInfo)) (last : Nat) : List CpInfo := es.foldr (fun e r => gap e.1 (e.2 :: r)) (gap last [])
def pool (es : List (Nat × CpInfo)) (last : Nat) : Array CpInfo := ⟨poolList es last⟩
def fileOf (pool : Array CpInfo) (this : Nat) (attrs : Array Attribute := #[]) (ms : Array MethodInfo := #[]) (fl : Nat := 33) (sup : Nat := 0) (ifs : Array Nat := #[]) (fds : Array FieldInfo := #[]) : ClassFile where
  minorVersion := 0
  majorVersion := 65
  constantPool := pool
  accessFlags := fl
  thisClass := this
  superClass := sup
  interfaces := ifs
  fields := fds
  methods := ms
  attributes := attrs
def plain (name : String) (sup : Option ClassId) : Class where
  name := name
  kind := .ordinary
  loader := none
  accessFlags := 33
  super := sup
  interfaces := #[]
  cf := none
  fields := #[]
  methods := #[]
  instanceTypes := #[]
  staticTypes := #[]
  resolved := #[]
  callSites := []
  init := .initialized
  statics := none
  mirror := none

def pool0 : Array CpInfo := pool [(5, u "<init>"), (0, u "()V"), (1, .class_ 10), (1, u "java/lang/Object")] 113

def k0m0 : Method := { name := "<init>", desc := "()V", sig := { parameters := [], returnType := none }, accessFlags := 1, code := none }
/-- java/lang/Object -/
def k0 : Class := { plain "java/lang/Object" none with
  accessFlags := 33
  interfaces := #[]
  cf := some (fileOf pool0 8 #[] #[{ accessFlags := 1, nameIndex := 5, descriptorIndex := 6, attributes := #[] }] 33 0 #[] #[])
  fields := #[]
  methods := #[k0m0]
  instanceTypes := #[]
  staticTypes := #[]
  resolved := Array.replicate 124 none
  statics := none }

def pool1 : Array CpInfo := pool [(2, .class_ 4), (1, u "java/lang/Object"), (0, u "<init>"), (0, u "()V"), (0, .methodref 8 9), (0, .class_ 10), (0, .nameAndType 11 12), (0, u "com/example/tallyward/tallyward/io/CsvFieldsLengthPinLaw"), (0, u "at"), (0, u "([BIII)I"), (0, .methodref 8 14), (0, .nameAndType 15 16), (0, u "pick"), (0, u "(JII)B"), (0, .integer 2147483647), (0, .methodref 19 20), (0, .class_ 21), (0, .nameAndType 22 12), (0, u "com/example/tallyward/tallyward/io/Csv"), (0, u "fieldsLength"), (0, .methodref 8 24), (0, .nameAndType 25 26), (0, u "commas"), (0, u "([BII)I"), (3, u "law"), (0, u "(JIIII)Z")] 4

def k1m0 : Method := { name := "<init>", desc := "()V", sig := { parameters := [], returnType := none }, accessFlags := 2, code := none }
def k1c1 : Code := { maxStack := 4, maxLocals := 4, code := method_2_code, exceptionTable := #[], attributes := #[] }
def k1m1 : Method := { name := "pick", desc := "(JII)B", sig := { parameters := [.long, .int, .int], returnType := some .byte }, accessFlags := 10, code := some k1c1 }
def k1c2 : Code := { maxStack := 2, maxLocals := 4, code := method_3_code, exceptionTable := #[], attributes := #[] }
def k1m2 : Method := { name := "at", desc := "([BIII)I", sig := { parameters := [(.array .byte), .int, .int, .int], returnType := some .int }, accessFlags := 10, code := some k1c2 }
def k1c3 : Code := { maxStack := 5, maxLocals := 3, code := method_4_code, exceptionTable := #[], attributes := #[] }
def k1m3 : Method := { name := "commas", desc := "([BII)I", sig := { parameters := [(.array .byte), .int, .int], returnType := some .int }, accessFlags := 10, code := some k1c3 }
def k1c4 : Code := { maxStack := 6, maxLocals := 12, code := code, exceptionTable := #[], attributes := #[] }
def k1m4 : Method := { name := "law", desc := "(JIIII)Z", sig := { parameters := [.long, .int, .int, .int, .int], returnType := some .boolean }, accessFlags := 9, code := some k1c4 }
/-- com/example/tallyward/tallyward/io/CsvFieldsLengthPinLaw -/
def k1 : Class := { plain "com/example/tallyward/tallyward/io/CsvFieldsLengthPinLaw" (some 0) with
  accessFlags := 49
  interfaces := #[]
  cf := some (fileOf pool1 8 #[] #[{ accessFlags := 2, nameIndex := 5, descriptorIndex := 6, attributes := #[] }, { accessFlags := 10, nameIndex := 15, descriptorIndex := 16, attributes := #[] }, { accessFlags := 10, nameIndex := 11, descriptorIndex := 12, attributes := #[] }, { accessFlags := 10, nameIndex := 25, descriptorIndex := 26, attributes := #[] }, { accessFlags := 9, nameIndex := 30, descriptorIndex := 31, attributes := #[] }] 49 2 #[] #[])
  fields := #[]
  methods := #[k1m0, k1m1, k1m2, k1m3, k1m4]
  instanceTypes := #[]
  staticTypes := #[]
  resolved := Array.replicate 36 none
  statics := none }

def pool2 : Array CpInfo := pool [(2, .class_ 4), (1, u "java/lang/Object"), (0, u "<init>"), (0, u "()V"), (11, .class_ 20), (1, u "com/example/tallyward/tallyward/io/Csv"), (3, .class_ 26), (1, u "com/example/tallyward/tallyward/io/Csv$BadFieldException"), (9, .class_ 38), (1, u "com/example/tallyward/tallyward/io/Csv$Quoting"), (91, .class_ 131), (0, u "com/example/tallyward/tallyward/io/Csv$BadRowException"), (63, .class_ 196), (0, u "com/example/tallyward/tallyward/io/Csv$RowText"), (90, u "DIGEST"), (0, u "Ljava/util/regex/Pattern;"), (107, .class_ 398), (1, u "com/example/tallyward/tallyward/io/Csv$RowHandler"), (7, u "SEPARATOR"), (0, u "C"), (2, u "QUOTE"), (15, u "fieldsLength"), (0, u "([BIII)I")] 110

def k2m0 : Method := { name := "<init>", desc := "()V", sig := { parameters := [], returnType := none }, accessFlags := 2, code := none }
def k2c1 : Code := { maxStack := 2, maxLocals := 6, code := prog_33_method_16_code, exceptionTable := #[], attributes := #[] }
def k2m1 : Method := { name := "fieldsLength", desc := "([BIII)I", sig := { parameters := [(.array .byte), .int, .int, .int], returnType := some .int }, accessFlags := 8, code := some k2c1 }
/-- com/example/tallyward/tallyward/io/Csv -/
def k2 : Class := { plain "com/example/tallyward/tallyward/io/Csv" (some 0) with
  accessFlags := 48
  interfaces := #[]
  cf := some (fileOf pool2 18 #[.nestMembers #[396, 195, 24, 130, 36]] #[{ accessFlags := 2, nameIndex := 5, descriptorIndex := 6, attributes := #[] }, { accessFlags := 8, nameIndex := 426, descriptorIndex := 427, attributes := #[] }] 48 2 #[] #[{ accessFlags := 26, nameIndex := 406, descriptorIndex := 407, attributes := #[] }, { accessFlags := 26, nameIndex := 410, descriptorIndex := 407, attributes := #[] }, { accessFlags := 26, nameIndex := 287, descriptorIndex := 288, attributes := #[] }])
  fields := #[{ name := "SEPARATOR", type := .char, accessFlags := 26, slot := 0, constantValue := 0 }, { name := "QUOTE", type := .char, accessFlags := 26, slot := 1, constantValue := 0 }, { name := "DIGEST", type := (.object "java/util/regex/Pattern"), accessFlags := 26, slot := 2, constantValue := 0 }]
  methods := #[k2m0, k2m1]
  instanceTypes := #[]
  staticTypes := #[.char, .char, (.object "java/util/regex/Pattern")]
  resolved := Array.replicate 538 none
  statics := none }

def pool3 : Array CpInfo := pool [(1, u "java/lang/Cloneable"), (0, .class_ 1), (0, u "java/lang/Object"), (0, .class_ 3)] 3

/-- java/lang/Cloneable -/
def k3 : Class := { plain "java/lang/Cloneable" (some 0) with
  accessFlags := 1537
  interfaces := #[]
  cf := some (fileOf pool3 2 #[] #[] 1537 4 #[] #[])
  fields := #[]
  methods := #[]
  instanceTypes := #[]
  staticTypes := #[]
  resolved := Array.replicate 8 none
  statics := none }

def pool4 : Array CpInfo := pool [(1, u "java/io/Serializable"), (0, .class_ 1), (0, u "java/lang/Object"), (0, .class_ 3)] 3

/-- java/io/Serializable -/
def k4 : Class := { plain "java/io/Serializable" (some 0) with
  accessFlags := 1537
  interfaces := #[]
  cf := some (fileOf pool4 2 #[] #[] 1537 4 #[] #[])
  fields := #[]
  methods := #[]
  instanceTypes := #[]
  staticTypes := #[]
  resolved := Array.replicate 8 none
  statics := none }

/-- the primitive byte -/
def k5 : Class := { plain "byte" none with kind := .primitive 'B', accessFlags := 0x411 }
/-- [B -/
def k6 : Class := { plain "[B" (some 0) with kind := .array 5 .byte, interfaces := #[3, 4], accessFlags := 1041 }

/-- the primitive int -/
def k7 : Class := { plain "int" none with kind := .primitive 'I', accessFlags := 0x411 }
/-- [I -/
def k8 : Class := { plain "[I" (some 0) with kind := .array 7 .int, interfaces := #[3, 4], accessFlags := 1041 }

def heap : Heap := #[]
def classes : Array Class := #[k0, k1, k2, k3, k4, k5, k6, k7, k8]
def interned : List (Array UInt16 × Addr) := []
def slotsUsed : Nat := 0
def theMethod : MethodId := ⟨1, 4⟩
def args0 : Array Value := #[.long 1, .int 2, .int 3, .int 4, .int 5]
def aboutOver (below : List Frame) : State where
  vm := { classes := classes, interned := interned.toArray }
  heap := heap
  slotsUsed := slotsUsed
  threads := #[{ frames := .invoking theMethod args0 :: below }]
def below0 : List Frame := [.native { method := ⟨0, 0⟩, args := #[] }]
def about1 : State := aboutOver below0
def p0 : Program := .bare "" "" ""
def e0 : Env := launch0.env 0 0 0
theorem w_frames : about1.frames = Frame.invoking theMethod args0 :: below0 := rfl
set_option maxRecDepth 65536 in
theorem w_args : argsFit about1.vm theMethod args0 = true := by decide +kernel
set_option maxRecDepth 65536 in
theorem w_heap : heapFits about1 = true := by decide +kernel
set_option maxRecDepth 65536 in
theorem w_runnable : about1.curStatus? = some .runnable := by decide +kernel
set_option maxRecDepth 65536 in
theorem w_alone : about1.alone = true := by decide +kernel
set_option maxRecDepth 65536 in
theorem w_named : about1.methodNamed? x = some theMethod := by decide +kernel
set_option maxRecDepth 65536 in
theorem w_hears : about1.hears theMethod below0 = true := by decide +kernel
set_option maxRecDepth 65536 in
theorem w_ripe : about1.ripe theMethod args0 below0 = true := by decide +kernel
theorem w_running : about1.status = .running := rfl
set_option maxRecDepth 65536 in
theorem w_room : about1.hasRoom e0.platform room_1 = true :=
  launch0.hasRoom_least _ room_1 (by decide +kernel) (by decide +kernel) (by decide +kernel) (by decide +kernel) (by decide +kernel) (by decide +kernel)
theorem allAtoms_all (ts : List Jvm.Cond) (a : Array Jvm.Value) (st : Jvm.State) : (allAtoms ts).before a st = ts.all (fun c => c.before a st) := by
  induction ts with
  | nil => rfl
  | cons c t ih =>
    show (Jvm.Cond.and c (allAtoms t)).before a st = _
    rw [Jvm.Cond.before_and, ih, List.all_cons]
def words1 : List Jvm.Cond := Jvm.Cond.code x code maxLocals ret :: tables_1
/-- a 'code' word, met by the world's own term for the bytes: nothing is compared byte by byte -/
theorem code_word {y : MethodName} {bytes : ByteArray} {mx : Nat} {rt : Option FieldType} {a : Array Value} {s : State} {m : MethodId} {meth : Method} {c : Code} (h1 : s.methodNamed? y = some m) (h2 : s.vm.method? m = some meth) (h3 : meth.code = some c) (h4 : c.code = bytes)
    (h5 : (c.maxLocals == mx && c.exceptionTable.isEmpty && decide (c.maxStack ≤ mostOperands) && decide (meth.sig.returnType = rt) && !meth.locks && decide (parseMethodDescriptor y.desc = some meth.sig)) = true) : (Jvm.Cond.code y bytes mx rt).before a s = true := by
  simp only [Bool.and_eq_true, beq_iff_eq, Bool.not_eq_true', decide_eq_true_eq] at h5
  obtain ⟨⟨⟨⟨⟨g1, g2⟩, g3⟩, g4⟩, g5⟩, g6⟩ := h5
  simp [Cond.before, Cond.holds, Cond.value, h1, h2, h3, h4, g1, g2, g3, g4, g5, g6]
def isCode : Jvm.Cond → Bool
  | .code _ _ _ _ => true
  | _ => false
theorem all_split {L : List Jvm.Cond} {P : Jvm.Cond → Bool} (h1 : L.all (fun c => isCode c || P c) = true) (h2 : ∀ c ∈ L.filter isCode, P c = true) : L.all P = true := by
  refine List.all_eq_true.mpr fun c hc => ?_
  have h := List.all_eq_true.mp h1 c hc
  rcases Bool.eq_false_or_eq_true (isCode c) with hi | hi
  · exact h2 c (List.mem_filter.mpr ⟨hc, hi⟩)
  · simpa [hi] using h
set_option maxRecDepth 65536 in
theorem w_c0 : (Jvm.Cond.code x code maxLocals ret).before args0 about1 = true := code_word (m := ⟨1, 4⟩) (meth := k1m4) (c := k1c4) (by decide +kernel) rfl rfl rfl (by decide +kernel)
set_option maxRecDepth 65536 in
theorem w_c1 : (Jvm.Cond.code ({ cls := "com/example/tallyward/tallyward/io/CsvFieldsLengthPinLaw", name := "pick", desc := "(JII)B" } : Jvm.MethodName) method_2_code (4 : Nat) (Option.some Jvm.ClassFile.FieldType.byte)).before args0 about1 = true := code_word (m := ⟨1, 1⟩) (meth := k1m1) (c := k1c1) (by decide +kernel) rfl rfl rfl (by decide +kernel)
set_option maxRecDepth 65536 in
theorem w_c2 : (Jvm.Cond.code ({ cls := "com/example/tallyward/tallyward/io/Csv", name := "fieldsLength", desc := "([BIII)I" } : Jvm.MethodName) prog_33_method_16_code (6 : Nat) (Option.some Jvm.ClassFile.FieldType.int)).before args0 about1 = true := code_word (m := ⟨2, 1⟩) (meth := k2m1) (c := k2c1) (by decide +kernel) rfl rfl rfl (by decide +kernel)
set_option maxRecDepth 65536 in
theorem w_c3 : (Jvm.Cond.code ({ cls := "com/example/tallyward/tallyward/io/CsvFieldsLengthPinLaw", name := "commas", desc := "([BII)I" } : Jvm.MethodName) method_4_code (3 : Nat) (Option.some Jvm.ClassFile.FieldType.int)).before args0 about1 = true := code_word (m := ⟨1, 3⟩) (meth := k1m3) (c := k1c3) (by decide +kernel) rfl rfl rfl (by decide +kernel)
set_option maxRecDepth 65536 in
theorem w_c4 : (Jvm.Cond.code ({ cls := "com/example/tallyward/tallyward/io/CsvFieldsLengthPinLaw", name := "at", desc := "([BIII)I" } : Jvm.MethodName) method_3_code (4 : Nat) (Option.some Jvm.ClassFile.FieldType.int)).before args0 about1 = true := code_word (m := ⟨1, 2⟩) (meth := k1m2) (c := k1c2) (by decide +kernel) rfl rfl rfl (by decide +kernel)
def codes1 : List Jvm.Cond := [Jvm.Cond.code x code maxLocals ret, Jvm.Cond.code ({ cls := "com/example/tallyward/tallyward/io/CsvFieldsLengthPinLaw", name := "pick", desc := "(JII)B" } : Jvm.MethodName) method_2_code (4 : Nat) (Option.some Jvm.ClassFile.FieldType.byte), Jvm.Cond.code ({ cls := "com/example/tallyward/tallyward/io/Csv", name := "fieldsLength", desc := "([BIII)I" } : Jvm.MethodName) prog_33_method_16_code (6 : Nat) (Option.some Jvm.ClassFile.FieldType.int), Jvm.Cond.code ({ cls := "com/example/tallyward/tallyward/io/CsvFieldsLengthPinLaw", name := "commas", desc := "([BII)I" } : Jvm.MethodName) method_4_code (3 : Nat) (Option.some Jvm.ClassFile.FieldType.int), Jvm.Cond.code ({ cls := "com/example/tallyward/tallyward/io/CsvFieldsLengthPinLaw", name := "at", desc := "([BIII)I" } : Jvm.MethodName) method_3_code (4 : Nat) (Option.some Jvm.ClassFile.FieldType.int)]
set_option maxRecDepth 65536 in
theorem codes_eq : words1.filter isCode = codes1 := rfl
theorem w_codes : ∀ c ∈ words1.filter isCode, c.before args0 about1 = true := by
  rw [codes_eq]
  intro c hc
  simp only [codes1, List.mem_cons, List.not_mem_nil, or_false] at hc
  rcases hc with rfl | rfl | rfl | rfl | rfl
  · exact w_c0
  · exact w_c1
  · exact w_c2
  · exact w_c3
  · exact w_c4
set_option maxRecDepth 65536 in
theorem w_t1 : words1.all (fun c => isCode c || c.before args0 about1) = true := by decide +kernel
theorem w_tables : (allAtoms (Jvm.Cond.code x code maxLocals ret :: tables_1)).before args0 about1 = true := by
  rw [allAtoms_all]
  show words1.all (fun c => c.before args0 about1) = true
  refine all_split ?_ w_codes
  rw [w_t1]
set_option maxRecDepth 65536 in
theorem w_case : (Jvm.Cond.and given_1 narrow_1).before args0 about1 = true := by decide +kernel
theorem w_applies : (headSpec (Jvm.Cond.code x code maxLocals ret :: tables_1) room_1).applies x e0.platform about1 = true :=
  (Spec.applies_iff w_frames).mpr ⟨w_running, w_runnable, w_alone, w_named, w_hears, w_ripe, w_room, w_tables⟩
theorem atStart : AtStart classFile x code maxLocals ret World_1 tables_1 room_1 Calls_1 rest_1 Pre_1 launch0 p0 e0 about1 theMethod args0 below0 :=
  ⟨lists_1, trivial, launch0.admits_env _ _ _, launch0.least_env, fairChoices_fair.cas, fairChoices_fair.clock, w_frames, w_args, w_heap, w_applies, trivial, trivial, w_case⟩
end start1
theorem witness_1 : WitnessClaimed_1 := ⟨start1.p0, start1.e0, start1.about1, start1.theMethod, start1.args0, start1.below0, start1.atStart⟩
end Jvm.Pilot.@@N@@
