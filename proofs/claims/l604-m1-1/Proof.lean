import JvmDerived
import JvmDerived.Pilot.@@N@@Statement
import JvmDerived.Pilot.@@N@@Code
set_option linter.unusedVariables false
set_option linter.unusedSimpArgs false
namespace Jvm.Pilot.@@N@@
open Jvm Jvm.ClassFile Sem Op Lib Jvm.Free Jvm.Stand Jvm.LawKit Jvm.RoadKit Bundle Jvm.Pilot.@@N@@.Jvm.D
section OwnKit
variable {p : Program} {l : Launch} {e : Env} {R : Room} {s : State} {m : MethodId} {args : Array Value} {below : List Frame} {meth : Method} {c : Code} {T T' : State} {locs : List Loc} {cells slots ck sk : Nat} {Q : Option Value → Heap → List Loc → Prop} {g g' : JFrame}
/-- from the state T with the top frame g the body ends, and Q says how -/
def Goes (p : Program) (e : Env) (below : List Frame) (s : State) (ck sk : Nat) (Q : Option Value → Heap → List Loc → Prop) (T : State) (g : JFrame) : Prop :=
  ∃ s₂ o, Steps p.tables e below (T.setTop g) s₂ ∧ s₂.status = .running ∧ Ended s₂ below o ∧ ∃ v L, o = .returned v ∧ Q v s₂.heap L ∧ FrameEnd s o s₂ L ck sk
theorem go (h : ∀ t, Steps p.tables e below (T'.setTop g') t → Steps p.tables e below (T.setTop g) t) (k : Goes p e below s ck sk Q T' g') : Goes p e below s ck sk Q T g := by
  obtain ⟨s₂, o, h1, r⟩ := k
  exact ⟨s₂, o, h _ h1, r⟩
theorem goV (h : Steps p.tables e below (T.setTop g) (T'.setTop g')) (k : Goes p e below s ck sk Q T' g') : Goes p e below s ck sk Q T g := go (fun _ kt => h.trans kt) k
theorem goEq (h : g = g') (k : Goes p e below s ck sk Q T g') : Goes p e below s ck sk Q T g := h ▸ k
theorem goVia {T₂ : State} {g₂ : JFrame} (h : Goes p e below s ck sk Q T₂ g₂ → Goes p e below s ck sk Q T g) (k : Goes p e below s ck sk Q T₂ g₂) : Goes p e below s ck sk Q T g := h k
theorem goRetN (X : Stand p l e R s m args below meth c T locs cells slots) (hx : p.tables.exec = Jvm.exec) (hlk : meth.locks = false) {pc : Nat} {Ls : Array Slot} {z : Int32} {t : FieldType} {rest : List Value} (hret : meth.sig.returnType = some t) (ht : t = .boolean ∨ t = .byte ∨ t = .char ∨ t = .short) (hd : decode c.code pc = .ok (.ireturn, 1))
    (hq : Q (some (.int (nar t z))) T.heap locs) (h1 : cells ≤ ck) (h2 : slots ≤ sk) : Goes p e below s ck sk Q T (mkF m pc Ls (.int z :: rest)) := by
  obtain ⟨fs, hr, hrun, hended, hW, hsame⟩ := X.leave (v := some (.int (nar t z))) (fun h => by rw [hret] at h; cases h)
  exact ⟨_, _, retN X hx hret ht hd hr, hrun, hended, _, _, rfl, hq, ⟨_, rfl⟩, hW, hsame.mono h1 h2⟩
theorem goRetI (X : Stand p l e R s m args below meth c T locs cells slots) (hx : p.tables.exec = Jvm.exec) (hlk : meth.locks = false) {pc : Nat} {Ls : Array Slot} {z : Int32} {rest : List Value} (hret : meth.sig.returnType = some .int) (hd : decode c.code pc = .ok (.ireturn, 1))
    (hq : Q (some (.int z)) T.heap locs) (h1 : cells ≤ ck) (h2 : slots ≤ sk) : Goes p e below s ck sk Q T (mkF m pc Ls (.int z :: rest)) := by
  obtain ⟨fs, hr, hrun, hended, hW, hsame⟩ := X.leave (v := some (.int z)) (fun h => by rw [hret] at h; cases h)
  exact ⟨_, _, retOut X hx hret rfl (Or.inl ⟨rfl, Or.inl rfl, z, rfl⟩) hd hr, hrun, hended, _, _, rfl, hq, ⟨_, rfl⟩, hW, hsame.mono h1 h2⟩
theorem goRetJ (X : Stand p l e R s m args below meth c T locs cells slots) (hx : p.tables.exec = Jvm.exec) (hlk : meth.locks = false) {pc : Nat} {Ls : Array Slot} {z : Int64} {rest : List Value} (hret : meth.sig.returnType = some .long) (hd : decode c.code pc = .ok (.lreturn, 1))
    (hq : Q (some (.long z)) T.heap locs) (h1 : cells ≤ ck) (h2 : slots ≤ sk) : Goes p e below s ck sk Q T (mkF m pc Ls (.long z :: rest)) := by
  obtain ⟨fs, hr, hrun, hended, hW, hsame⟩ := X.leave (v := some (.long z)) (fun h => by rw [hret] at h; cases h)
  exact ⟨_, _, retOut X hx hret rfl (Or.inr (Or.inl ⟨rfl, rfl, z, rfl⟩)) hd hr, hrun, hended, _, _, rfl, hq, ⟨_, rfl⟩, hW, hsame.mono h1 h2⟩
theorem goRetA (X : Stand p l e R s m args below meth c T locs cells slots) (hx : p.tables.exec = Jvm.exec) (hlk : meth.locks = false) {pc : Nat} {Ls : Array Slot} {w : Value} {t : FieldType} {rest : List Value} (hret : meth.sig.returnType = some t) (ht : t.isReference = true) (hn : narrow t w = w) (hw : w.isRef = true) (hd : decode c.code pc = .ok (.areturn, 1))
    (hq : Q (some w) T.heap locs) (h1 : cells ≤ ck) (h2 : slots ≤ sk) : Goes p e below s ck sk Q T (mkF m pc Ls (w :: rest)) := by
  obtain ⟨fs, hr, hrun, hended, hW, hsame⟩ := X.leave (v := some w) (fun h => by rw [hret] at h; cases h)
  exact ⟨_, _, retOut X hx hret hn (Or.inr (Or.inr (Or.inr (Or.inr ⟨rfl, ht, hw⟩)))) hd hr, hrun, hended, _, _, rfl, hq, ⟨_, rfl⟩, hW, hsame.mono h1 h2⟩
theorem goRetV (X : Stand p l e R s m args below meth c T locs cells slots) (hx : p.tables.exec = Jvm.exec) (hlk : meth.locks = false) {pc : Nat} {Ls : Array Slot} (hret : meth.sig.returnType = none) (hd : decode c.code pc = .ok (.return_, 1))
    (hq : Q none T.heap locs) (h1 : cells ≤ ck) (h2 : slots ≤ sk) : Goes p e below s ck sk Q T (mkF m pc Ls []) := by
  obtain ⟨fs, hr, hrun, hended, hW, hsame⟩ := X.leave (v := none) (fun _ => rfl)
  exact ⟨_, _, X.returnOut hx hret hd hr, hrun, hended, _, _, rfl, hq, ⟨_, rfl⟩, hW, hsame.mono h1 h2⟩
theorem own_l0 {x y : Int64} (h : x = y) : ifCond.holds .eq (lcmpW x y) = true ∧ ifCond.holds .ne (lcmpW x y) = false := by rw [if0, if0]; exact teq ((lw_eq x y).mpr h)
theorem own_l1 {x y : Int64} (h : ¬ x = y) : ifCond.holds .eq (lcmpW x y) = false ∧ ifCond.holds .ne (lcmpW x y) = true := by rw [if0, if0]; exact feq fun q => h ((lw_eq x y).mp q)
theorem own_l2 {x y : Int64} (h : x < y) : ifCond.holds .lt (lcmpW x y) = true ∧ ifCond.holds .ge (lcmpW x y) = false := by rw [if0, if0]; exact ⟨(tlt ((lw_lt x y).mpr h)).1, (tlt ((lw_lt x y).mpr h)).2.1⟩
theorem own_l3 {x y : Int64} (h : ¬ x < y) : ifCond.holds .lt (lcmpW x y) = false ∧ ifCond.holds .ge (lcmpW x y) = true := by
  rw [if0, if0]
  have q : ¬ lcmpW x y < 0 := fun q => h ((lw_lt x y).mp q)
  exact ⟨(flt q).1, (flt q).2.1⟩
theorem own_l4 {x y : Int64} (h : y < x) : ifCond.holds .gt (lcmpW x y) = true ∧ ifCond.holds .le (lcmpW x y) = false := by rw [if0, if0]; exact ⟨(tlt ((lw_gt x y).mpr h)).2.2.1, (tlt ((lw_gt x y).mpr h)).2.2.2⟩
theorem own_l5 {x y : Int64} (h : ¬ y < x) : ifCond.holds .gt (lcmpW x y) = false ∧ ifCond.holds .le (lcmpW x y) = true := by
  rw [if0, if0]
  have q : ¬ 0 < lcmpW x y := fun q => h ((lw_gt x y).mp q)
  exact ⟨(flt q).2.2.1, (flt q).2.2.2⟩
end OwnKit
theorem nn_toInt {i : Nat} (h : i < 2 ^ 31) : (Int32.ofNat i).toInt = i := Int32.toInt_ofNat_of_lt h
theorem nn_nat {i : Nat} (h : i < 2 ^ 31) : (Int32.ofNat i).toNatClampNeg = i := by
  simp only [Int32.toNatClampNeg, nn_toInt h]; rfl
theorem nn_lt {i j : Nat} (hi : i < 2 ^ 31) (hj : j < 2 ^ 31) : Int32.ofNat i < Int32.ofNat j ↔ i < j := by
  rw [Int32.lt_iff_toInt_lt, nn_toInt hi, nn_toInt hj]; omega
theorem nn_eq {i j : Nat} (hi : i < 2 ^ 31) (hj : j < 2 ^ 31) : Int32.ofNat i = Int32.ofNat j ↔ i = j := by
  rw [← Int32.toInt_inj, nn_toInt hi, nn_toInt hj]; omega
theorem nn_add (i j : Nat) : Int32.ofNat i + Int32.ofNat j = Int32.ofNat (i + j) := (Int32.ofNat_add i j).symm
theorem nn_mul (i j : Nat) : Int32.ofNat i * Int32.ofNat j = Int32.ofNat (i * j) := (Int32.ofNat_mul i j).symm
theorem nn_sub {i j : Nat} (h : j ≤ i) : Int32.ofNat i - Int32.ofNat j = Int32.ofNat (i - j) := by
  rw [Int32.sub_eq_iff_eq_add, nn_add, Nat.sub_add_cancel h]
theorem nn_of {x : Int32} (h : 0 ≤ x.toInt) : x = Int32.ofNat x.toInt.toNat := by
  apply Int32.toInt_inj.mp
  have := x.toInt_lt
  rw [nn_toInt (by omega)]; omega
theorem nn_neg {i : Nat} (hi : i < 2 ^ 31) : ¬ Int32.ofNat i < 0 := by
  intro q; have q := Int32.lt_iff_toInt_lt.mp q; rw [nn_toInt hi] at q; simp at q; omega
theorem own_and31 (x : Int32) : 0 ≤ (x &&& 2147483647).toInt := by
  have h : (x &&& 2147483647).toBitVec.msb = false := by
    show (x.toBitVec &&& 2147483647#32).msb = false
    rw [BitVec.msb_and, show (2147483647#32).msb = false from by decide, Bool.and_false]
  show 0 ≤ (x &&& 2147483647).toBitVec.toInt
  rw [BitVec.toInt_eq_msb_cond, h]; simp
theorem nn_rem {x : Int32} (h : 0 ≤ x.toInt) {k : Nat} (hk : 0 < k) (hk2 : k < 2 ^ 31) : ∃ i, i < k ∧ x % Int32.ofNat k = Int32.ofNat i := by
  have e : (x % Int32.ofNat k).toInt = x.toInt.tmod k := by rw [Int32.toInt_mod, nn_toInt hk2]
  have h1 : 0 ≤ x.toInt.tmod k := Int.tmod_nonneg _ h
  have h2 : x.toInt.tmod k < k := Int.tmod_lt_of_pos _ (by omega)
  refine ⟨(x % Int32.ofNat k).toInt.toNat, by omega, nn_of (by omega)⟩
theorem own_mask64 (x : Int64) : 0 ≤ (x &&& 9223372036854775807).toInt := by
  have h : (x &&& 9223372036854775807).toBitVec.msb = false := by
    show (x.toBitVec &&& 9223372036854775807#64).msb = false
    rw [BitVec.msb_and, show (9223372036854775807#64).msb = false from by decide, Bool.and_false]
  show 0 ≤ (x &&& 9223372036854775807).toBitVec.toInt
  rw [BitVec.toInt_eq_msb_cond, h]; simp
theorem own_and7 (x : Int32) : ∃ i, i < 8 ∧ x &&& 7 = Int32.ofNat i := by
  refine ⟨(x &&& 7).toBitVec.toNat, ?_, ?_⟩
  · show (x.toBitVec &&& 7#32).toNat < 8
    rw [BitVec.toNat_and]; exact Nat.lt_of_le_of_lt Nat.and_le_right (by decide)
  · apply Int32.toBitVec_inj.mp
    show _ = BitVec.ofNat 32 _
    rw [BitVec.ofNat_toNat, BitVec.setWidth_eq]
theorem own_andk (x : Int32) {k : Nat} (hk : k < 2 ^ 32) : ∃ i, i ≤ k ∧ x &&& Int32.ofNat k = Int32.ofNat i := by
  refine ⟨(x &&& Int32.ofNat k).toBitVec.toNat, ?_, ?_⟩
  · show (x.toBitVec &&& BitVec.ofNat 32 k).toNat ≤ k
    rw [BitVec.toNat_and, BitVec.toNat_ofNat, Nat.mod_eq_of_lt hk]; exact Nat.and_le_right
  · apply Int32.toBitVec_inj.mp
    show _ = BitVec.ofNat 32 _
    rw [BitVec.ofNat_toNat, BitVec.setWidth_eq]
def own_tab : Nat → Nat := fun i => [0, 1, 2, 0, 2, 1, 1, 0, 2, 1, 2, 0, 2, 0, 1, 2, 1, 0].getD i 0
def own_pos (n p k : Nat) : Nat := if n = 3 then own_tab (p * 3 + k) else if n = 2 then (if p % 2 = 1 then 1 - k else k) else k
theorem own_pos3 : ∀ n : Fin 4, ∀ p : Fin 6, ∀ k : Fin 3, k.val < n.val → own_pos n.val p.val k.val < 3 := by decide
theorem own_poslt {n p k : Nat} (hn : n < 4) (hp : p < 6) (hk : k < n) : own_pos n p k < 3 := own_pos3 ⟨n, hn⟩ ⟨p, hp⟩ ⟨k, by omega⟩ hk
section
variable {α β : Type} [DecidableEq α] [DecidableEq β]
def own_v (a b c : α) : Nat → α := fun i => if i = 0 then a else if i = 1 then b else c
def own_sq (a b c x : α) (st : Nat) : Nat → α := fun i => if st = 0 then (if i = 0 then a else if i = 1 then b else if i = 2 then c else x) else (if i = 0 then x else if i = 1 then a else if i = 2 then b else c)
def own_mi (a b c x : α) (n p r : Nat) : α := if r < n then own_v a b c (own_pos n p r) else x
def own_o0 (a b c x : α) (n p r : Nat) : Nat → α := fun _ => own_mi a b c x n p r
def own_o1 (a b c x : α) (n p r os : Nat) : Nat → α := fun i => if 0 < n ∧ i = os then own_v a b c (own_pos n p 0) else own_o0 a b c x n p r i
def own_o2 (a b c x : α) (n p r os : Nat) : Nat → α := fun i => if 1 < n ∧ i = os + 1 then own_v a b c (own_pos n p 1) else own_o1 a b c x n p r os i
def own_o3 (a b c x : α) (n p r os : Nat) : Nat → α := fun i => if 2 < n ∧ i = os + 2 then own_v a b c (own_pos n p 2) else own_o2 a b c x n p r os i
def own_o4 (a b c x : α) (n p r os : Nat) : Nat → α := fun i => if r < n ∧ i = os + r then x else own_o3 a b c x n p r os i
def own_any (g : Nat → α) (z : α) : Nat → Nat → Bool
  | 0, _ => false
  | k + 1, j => decide (z = g j) || own_any g z k (j + 1)
def own_same (f g : Nat → α) (os n : Nat) : Nat → Nat → Bool
  | 0, _ => true
  | k + 1, i => own_any g (f i) n os && own_same f g os n k (i + 1)
theorem own_any_map {φ : α → β} (hφ : ∀ u v, φ u = φ v → u = v) (g : Nat → α) (z : α) : ∀ k j, own_any (fun i => φ (g i)) (φ z) k j = own_any g z k j := by
  intro k
  induction k with
  | zero => intro j; rfl
  | succ k ih =>
    intro j; simp only [own_any, ih]; congr 1
    by_cases h : z = g j
    · simp [h]
    · have : ¬ φ z = φ (g j) := fun q => h (hφ _ _ q)
      simp [h, this]
theorem own_same_map {φ : α → β} (hφ : ∀ u v, φ u = φ v → u = v) (f g : Nat → α) (os n : Nat) : ∀ k i, own_same (fun i => φ (f i)) (fun i => φ (g i)) os n k i = own_same f g os n k i := by
  intro k
  induction k with
  | zero => intro i; rfl
  | succ k ih => intro i; simp only [own_same, ih, own_any_map hφ]
end
/-- the same over codes 0 .. 3 -/
theorem own_code : ∀ (n : Fin 4) (st os : Fin 2) (p : Fin 6) (r : Fin 4), own_same (own_sq (0 : Fin 4) 1 2 3 st.val) (own_o4 0 1 2 3 n.val p.val r.val os.val) os.val n.val n.val st.val = decide (¬ r.val < n.val) := by decide +kernel
def own_phi (a b c x : Int32) : Fin 4 → Int32
  | 0 => a
  | 1 => b
  | 2 => c
  | 3 => x
theorem own_law {a b c x : Int32} (h1 : ¬ a = b) (h2 : ¬ a = c) (h3 : ¬ b = c) (h4 : ¬ x = a) (h5 : ¬ x = b) (h6 : ¬ x = c) {n st os p r : Nat} (hn : n < 4) (hst : st < 2) (hos : os < 2) (hp : p < 6) (hr : r < 4) :
    own_same (own_sq a b c x st) (own_o4 a b c x n p r os) os n n st = decide (¬ r < n) := by
  have hφ : ∀ u v, own_phi a b c x u = own_phi a b c x v → u = v := by
    have g1 := Ne.symm h1; have g2 := Ne.symm h2; have g3 := Ne.symm h3; have g4 := Ne.symm h4; have g5 := Ne.symm h5; have g6 := Ne.symm h6
    intro u v q
    match u, v, q with
    | 0, 0, _ => rfl
    | 0, 1, q => exact absurd q h1
    | 0, 2, q => exact absurd q h2
    | 0, 3, q => exact absurd q g4
    | 1, 0, q => exact absurd q g1
    | 1, 1, _ => rfl
    | 1, 2, q => exact absurd q h3
    | 1, 3, q => exact absurd q g5
    | 2, 0, q => exact absurd q g2
    | 2, 1, q => exact absurd q g3
    | 2, 2, _ => rfl
    | 2, 3, q => exact absurd q g6
    | 3, 0, q => exact absurd q h4
    | 3, 1, q => exact absurd q h5
    | 3, 2, q => exact absurd q h6
    | 3, 3, _ => rfl
  have e1 : own_sq a b c x st = fun i => own_phi a b c x (own_sq 0 1 2 3 st i) := by
    funext i; simp only [own_sq, apply_ite (own_phi a b c x)]; rfl
  have e2 : own_o4 a b c x n p r os = fun i => own_phi a b c x (own_o4 0 1 2 3 n p r os i) := by
    funext i; simp only [own_o4, own_o3, own_o2, own_o1, own_o0, own_mi, own_v, apply_ite (own_phi a b c x)]; rfl
  rw [e1, e2, own_same_map hφ]
  exact own_code ⟨n, hn⟩ ⟨st, hst⟩ ⟨os, hos⟩ ⟨p, hp⟩ ⟨r, hr⟩
section OwnArr
variable {p : Program} {l : Launch} {e : Env} {R : Room} {s : State} {m : MethodId} {args : Array Value} {below : List Frame} {meth : Method} {c : Code} {T : State} {locs : List Loc} {cells slots : Nat} {Z : State} {h h' : Heap} {a b : Addr} {v : Value} {sl : Nat} {ty : FieldType} {n : Int32} {f f' : Nat → Value} {ws : List Addr}
/-- an array of n places: place i holds f i -/
def Aw (Z : State) (h : Heap) (a : Addr) (ty : FieldType) (n : Int32) (f : Nat → Value) : Prop := ∃ c : Cell, Arr Z h a c ty ∧ c.slots.size = n.toNatClampNeg ∧ ¬ n < 0 ∧ (∀ i, i < c.slots.size → c.slots[i]? = some (f i)) ∧ ∀ i, i < c.slots.size → fits ty (f i) = true
def upd (f : Nat → Value) (j : Nat) (v : Value) : Nat → Value := fun i => if i = j then v else f i
theorem Aw.lt (F : Aw Z h a ty n f) : a < h.size := by obtain ⟨c, A, -⟩ := F; exact A.lt
theorem Aw.ext (F : Aw Z h a ty n f) (E : Ext h h') : Aw Z h' a ty n f := by obtain ⟨c, A, r⟩ := F; exact ⟨c, A.ext E, r⟩
theorem Aw.other (F : Aw Z h b ty n f) (W : Wr h h' a sl v) (q : b ≠ a) : Aw Z h' b ty n f := by obtain ⟨c, A, r⟩ := F; exact ⟨c, A.other W q, r⟩
theorem Aw.keep (F : Aw Z h a ty n f) (K : Keep h h' ws) (q : a ∉ ws) : Aw Z h' a ty n f := by obtain ⟨c, A, r⟩ := F; exact ⟨c, ⟨K.2.1 a c A.1 q, A.2⟩, r⟩
theorem Aw.new {k : ClassId} (A : Arr Z h a (newA k ty n) ty) (q : ¬ n < 0) : Aw Z h a ty n (fun _ => defaultValue ty) := ⟨_, A, sz_new _ _ _, q, fun i hi => by rw [sz_new] at hi; simp [newA, hi], fun i _ => by cases ty <;> rfl⟩
theorem Aw.set (F : Aw Z h a ty n f) {j : Nat} (W : Wr h h' a j v) (hv : fits ty v = true) : Aw Z h' a ty n (upd f j v) := by
  obtain ⟨c, A, S, N, H, G⟩ := F
  refine ⟨_, A.same W, by rw [sz_set]; exact S, N, fun i hi => ?_, fun i hi => ?_⟩ <;> rw [sz_set] at hi <;> unfold upd <;> split
  · rename_i q; subst q; simp [Cell.setSlot, hi]
  · rename_i q; simp only [Cell.setSlot]; rw [Array.getElem?_setIfInBounds_ne (Ne.symm q)]; exact H i hi
  · exact hv
  · exact G i hi
theorem Aw.congr (F : Aw Z h a ty n f) (q : ∀ i, i < n.toNatClampNeg → f' i = f i) : Aw Z h a ty n f' := by
  obtain ⟨c, A, S, N, H, G⟩ := F
  exact ⟨c, A, S, N, fun i hi => by rw [q i (S ▸ hi)]; exact H i hi, fun i hi => by rw [q i (S ▸ hi)]; exact G i hi⟩
theorem Aw.nn (F : Aw Z h a ty n f) : ¬ n < 0 := by obtain ⟨c, A, S, N, -⟩ := F; exact N
theorem own_stI (X : Stand p l e R s m args below meth c T locs cells slots) (hx : p.tables.exec = Jvm.exec) (hZ : Z.Warmed39 s.vm) (eT : T.heap = h) (F : Aw Z h a .int n f) {j x : Int32} (hj : ¬ j < 0 ∧ j < n) {g : JFrame} (hg : g.method = m) {rest : List Value} (hs : g.stack = .int x :: .int j :: .ref a :: rest) (hd : decode c.code g.pc = .ok (.iastore, 1)) :
    ∃ T' h', Stand p l e R s m args below meth c T' (locs ++ [⟨a, j.toNatClampNeg⟩]) cells slots ∧ T'.heap = h' ∧ Wr h h' a j.toNatClampNeg (.int x) ∧ Aw Z h' a .int n (upd f j.toNatClampNeg (.int x)) ∧ ∀ target, Steps p.tables e below (T'.setTop { g with pc := g.pc + 1, stack := rest }) target → Steps p.tables e below (T.setTop g) target := by
  obtain ⟨cl, A, S, r⟩ := F
  obtain ⟨T', h', X', e', W, st⟩ := stI X hx hZ eT A (inb_of S hj) hg hs hd
  exact ⟨T', h', X', e', W, Aw.set ⟨cl, A, S, r⟩ W rfl, st⟩
theorem own_stJ (X : Stand p l e R s m args below meth c T locs cells slots) (hx : p.tables.exec = Jvm.exec) (hZ : Z.Warmed39 s.vm) (eT : T.heap = h) (F : Aw Z h a .long n f) {j : Int32} {x : Int64} (hj : ¬ j < 0 ∧ j < n) {g : JFrame} (hg : g.method = m) {rest : List Value} (hs : g.stack = .long x :: .int j :: .ref a :: rest) (hd : decode c.code g.pc = .ok (.lastore, 1)) :
    ∃ T' h', Stand p l e R s m args below meth c T' (locs ++ [⟨a, j.toNatClampNeg⟩]) cells slots ∧ T'.heap = h' ∧ Wr h h' a j.toNatClampNeg (.long x) ∧ Aw Z h' a .long n (upd f j.toNatClampNeg (.long x)) ∧ ∀ target, Steps p.tables e below (T'.setTop { g with pc := g.pc + 1, stack := rest }) target → Steps p.tables e below (T.setTop g) target := by
  obtain ⟨cl, A, S, r⟩ := F
  obtain ⟨T', h', X', e', W, st⟩ := stJ X hx hZ eT A (inb_of S hj) hg hs hd
  exact ⟨T', h', X', e', W, Aw.set ⟨cl, A, S, r⟩ W rfl, st⟩
theorem own_stB (X : Stand p l e R s m args below meth c T locs cells slots) (hx : p.tables.exec = Jvm.exec) (hZ : Z.Warmed39 s.vm) (eT : T.heap = h) (F : Aw Z h a .byte n f) {j x : Int32} (hj : ¬ j < 0 ∧ j < n) {g : JFrame} (hg : g.method = m) {rest : List Value} (hs : g.stack = .int x :: .int j :: .ref a :: rest) (hd : decode c.code g.pc = .ok (.bastore, 1)) :
    ∃ T' h', Stand p l e R s m args below meth c T' (locs ++ [⟨a, j.toNatClampNeg⟩]) cells slots ∧ T'.heap = h' ∧ Wr h h' a j.toNatClampNeg (.int x.toInt8.toInt32) ∧ Aw Z h' a .byte n (upd f j.toNatClampNeg (.int x.toInt8.toInt32)) ∧ ∀ target, Steps p.tables e below (T'.setTop { g with pc := g.pc + 1, stack := rest }) target → Steps p.tables e below (T.setTop g) target := by
  obtain ⟨cl, A, S, r⟩ := F
  obtain ⟨T', h', X', e', W, st⟩ := stB X hx hZ eT A (inb_of S hj) hg hs hd
  exact ⟨T', h', X', e', W, Aw.set ⟨cl, A, S, r⟩ W (fits_nar_byte _), st⟩
theorem own_len (X : Stand p l e R s m args below meth c T locs cells slots) (hx : p.tables.exec = Jvm.exec) (hZ : Z.Warmed39 s.vm) (eT : T.heap = h) (F : Aw Z h a ty n f) {g : JFrame} (hg : g.method = m) {rest : List Value} (hs : g.stack = .ref a :: rest) (hd : decode c.code g.pc = .ok (.arraylength, 1)) (target : State)
    (k : Steps p.tables e below (T.setTop { g with pc := g.pc + 1, stack := .int n :: rest }) target) : Steps p.tables e below (T.setTop g) target := by
  obtain ⟨cl, A, S, N, -⟩ := F
  refine X.arraylength hx (by rw [eT]; exact A.1) (State.isArrayOf_alike hZ.alike A.2.1) hg hs hd _ ?_
  rw [len_of S N]; exact k
theorem own_ldI (X : Stand p l e R s m args below meth c T locs cells slots) (hx : p.tables.exec = Jvm.exec) (hZ : Z.Warmed39 s.vm) (eT : T.heap = h) (F : Aw Z h a .int n f) {j : Int32} (hj : ¬ j < 0 ∧ j < n) (hv : f j.toNatClampNeg = v) {g : JFrame} (hg : g.method = m) {rest : List Value} (hs : g.stack = .int j :: .ref a :: rest) (hd : decode c.code g.pc = .ok (.iaload, 1)) (target : State)
    (k : Steps p.tables e below (T.setTop { g with pc := g.pc + 1, stack := v :: rest }) target) : Steps p.tables e below (T.setTop g) target := by
  obtain ⟨cl, A, S, N, H, -⟩ := F
  have hin := inb_of S hj
  exact X.iaload hx (by rw [eT]; exact A.1) (State.isArrayOf_alike hZ.alike A.2.1) A.2.2 hin (hv ▸ H _ (Nat.lt_of_not_le fun q => hin (Or.inr q))) hg hs hd _ k
theorem own_ldJ (X : Stand p l e R s m args below meth c T locs cells slots) (hx : p.tables.exec = Jvm.exec) (hZ : Z.Warmed39 s.vm) (eT : T.heap = h) (F : Aw Z h a .long n f) {j : Int32} (hj : ¬ j < 0 ∧ j < n) (hv : f j.toNatClampNeg = v) {g : JFrame} (hg : g.method = m) {rest : List Value} (hs : g.stack = .int j :: .ref a :: rest) (hd : decode c.code g.pc = .ok (.laload, 1)) (target : State)
    (k : Steps p.tables e below (T.setTop { g with pc := g.pc + 1, stack := v :: rest }) target) : Steps p.tables e below (T.setTop g) target := by
  obtain ⟨cl, A, S, N, H, -⟩ := F
  have hin := inb_of S hj
  exact X.laload hx (by rw [eT]; exact A.1) (State.isArrayOf_alike hZ.alike A.2.1) A.2.2 hin (hv ▸ H _ (Nat.lt_of_not_le fun q => hin (Or.inr q))) hg hs hd _ k
theorem own_ldB (X : Stand p l e R s m args below meth c T locs cells slots) (hx : p.tables.exec = Jvm.exec) (hZ : Z.Warmed39 s.vm) (eT : T.heap = h) (F : Aw Z h a .byte n f) {j : Int32} (hj : ¬ j < 0 ∧ j < n) (hv : f j.toNatClampNeg = v) {g : JFrame} (hg : g.method = m) {rest : List Value} (hs : g.stack = .int j :: .ref a :: rest) (hd : decode c.code g.pc = .ok (.baload, 1)) (target : State)
    (k : Steps p.tables e below (T.setTop { g with pc := g.pc + 1, stack := v :: rest }) target) : Steps p.tables e below (T.setTop g) target := by
  obtain ⟨cl, A, S, N, H, -⟩ := F
  have hin := inb_of S hj
  exact X.baloadBytes hx (by rw [eT]; exact A.1) (State.isArrayOf_alike hZ.alike A.2.1) A.2.2 hin (hv ▸ H _ (Nat.lt_of_not_le fun q => hin (Or.inr q))) hg hs hd _ k
end OwnArr
def own_b : Bool → Int32
  | true => 1
  | false => 0
theorem own_bor (u v : Bool) : own_b u ||| own_b v = own_b (u || v) := by cases u <;> cases v <;> rfl
theorem own_bn (u : Bool) : nar .boolean (own_b u) = own_b u := by cases u <;> rfl
theorem own_bt {u : Bool} (h : u = true) : own_b u = 1 := by rw [h]; rfl
theorem own_bf {u : Bool} (h : u = false) : own_b u = 0 := by rw [h]; rfl
theorem own_upd {g : Nat → Int32} {j : Nat} {x : Int32} (hj : j < 2 ^ 31) (i : Nat) : upd (fun i => .int (g i)) (Int32.ofNat j).toNatClampNeg (.int x) i = .int (if i = j then x else g i) := by
  rw [nn_nat hj]; unfold upd; split <;> rfl
theorem own_par : ∀ p : Fin 6, (Int32.ofNat p.val &&& 1 = 1) ↔ p.val % 2 = 1 := by decide
theorem own_parity {p : Nat} (h : p < 6) : (Int32.ofNat p &&& 1 = 1) ↔ p % 2 = 1 := own_par ⟨p, h⟩

theorem d2_0 : decode method_2_code 0 = .ok (.iload_n 0, 1) := by decide +kernel
theorem d2_1 : decode method_2_code 1 = .ok (.iconst 3, 1) := by decide +kernel
theorem d2_2 : decode method_2_code 2 = .ok (.if_icmp .ne 100, 3) := by decide +kernel
theorem d2_5 : decode method_2_code 5 = .ok (.bipush 18, 2) := by decide +kernel
theorem d2_7 : decode method_2_code 7 = .ok (.newarray .int, 2) := by decide +kernel
theorem d2_9 : decode method_2_code 9 = .ok (.dup, 1) := by decide +kernel
theorem d2_10 : decode method_2_code 10 = .ok (.iconst 0, 1) := by decide +kernel
theorem d2_11 : decode method_2_code 11 = .ok (.iconst 0, 1) := by decide +kernel
theorem d2_12 : decode method_2_code 12 = .ok (.iastore, 1) := by decide +kernel
theorem d2_13 : decode method_2_code 13 = .ok (.dup, 1) := by decide +kernel
theorem d2_14 : decode method_2_code 14 = .ok (.iconst 1, 1) := by decide +kernel
theorem d2_15 : decode method_2_code 15 = .ok (.iconst 1, 1) := by decide +kernel
theorem d2_16 : decode method_2_code 16 = .ok (.iastore, 1) := by decide +kernel
theorem d2_17 : decode method_2_code 17 = .ok (.dup, 1) := by decide +kernel
theorem d2_18 : decode method_2_code 18 = .ok (.iconst 2, 1) := by decide +kernel
theorem d2_19 : decode method_2_code 19 = .ok (.iconst 2, 1) := by decide +kernel
theorem d2_20 : decode method_2_code 20 = .ok (.iastore, 1) := by decide +kernel
theorem d2_21 : decode method_2_code 21 = .ok (.dup, 1) := by decide +kernel
theorem d2_22 : decode method_2_code 22 = .ok (.iconst 3, 1) := by decide +kernel
theorem d2_23 : decode method_2_code 23 = .ok (.iconst 0, 1) := by decide +kernel
theorem d2_24 : decode method_2_code 24 = .ok (.iastore, 1) := by decide +kernel
theorem d2_25 : decode method_2_code 25 = .ok (.dup, 1) := by decide +kernel
theorem d2_26 : decode method_2_code 26 = .ok (.iconst 4, 1) := by decide +kernel
theorem d2_27 : decode method_2_code 27 = .ok (.iconst 2, 1) := by decide +kernel
theorem d2_28 : decode method_2_code 28 = .ok (.iastore, 1) := by decide +kernel
theorem d2_29 : decode method_2_code 29 = .ok (.dup, 1) := by decide +kernel
theorem d2_30 : decode method_2_code 30 = .ok (.iconst 5, 1) := by decide +kernel
theorem d2_31 : decode method_2_code 31 = .ok (.iconst 1, 1) := by decide +kernel
theorem d2_32 : decode method_2_code 32 = .ok (.iastore, 1) := by decide +kernel
theorem d2_33 : decode method_2_code 33 = .ok (.dup, 1) := by decide +kernel
theorem d2_34 : decode method_2_code 34 = .ok (.bipush 6, 2) := by decide +kernel
theorem d2_36 : decode method_2_code 36 = .ok (.iconst 1, 1) := by decide +kernel
theorem d2_37 : decode method_2_code 37 = .ok (.iastore, 1) := by decide +kernel
theorem d2_38 : decode method_2_code 38 = .ok (.dup, 1) := by decide +kernel
theorem d2_39 : decode method_2_code 39 = .ok (.bipush 7, 2) := by decide +kernel
theorem d2_41 : decode method_2_code 41 = .ok (.iconst 0, 1) := by decide +kernel
theorem d2_42 : decode method_2_code 42 = .ok (.iastore, 1) := by decide +kernel
theorem d2_43 : decode method_2_code 43 = .ok (.dup, 1) := by decide +kernel
theorem d2_44 : decode method_2_code 44 = .ok (.bipush 8, 2) := by decide +kernel
theorem d2_46 : decode method_2_code 46 = .ok (.iconst 2, 1) := by decide +kernel
theorem d2_47 : decode method_2_code 47 = .ok (.iastore, 1) := by decide +kernel
theorem d2_48 : decode method_2_code 48 = .ok (.dup, 1) := by decide +kernel
theorem d2_49 : decode method_2_code 49 = .ok (.bipush 9, 2) := by decide +kernel
theorem d2_51 : decode method_2_code 51 = .ok (.iconst 1, 1) := by decide +kernel
theorem d2_52 : decode method_2_code 52 = .ok (.iastore, 1) := by decide +kernel
theorem d2_53 : decode method_2_code 53 = .ok (.dup, 1) := by decide +kernel
theorem d2_54 : decode method_2_code 54 = .ok (.bipush 10, 2) := by decide +kernel
theorem d2_56 : decode method_2_code 56 = .ok (.iconst 2, 1) := by decide +kernel
theorem d2_57 : decode method_2_code 57 = .ok (.iastore, 1) := by decide +kernel
theorem d2_58 : decode method_2_code 58 = .ok (.dup, 1) := by decide +kernel
theorem d2_59 : decode method_2_code 59 = .ok (.bipush 11, 2) := by decide +kernel
theorem d2_61 : decode method_2_code 61 = .ok (.iconst 0, 1) := by decide +kernel
theorem d2_62 : decode method_2_code 62 = .ok (.iastore, 1) := by decide +kernel
theorem d2_63 : decode method_2_code 63 = .ok (.dup, 1) := by decide +kernel
theorem d2_64 : decode method_2_code 64 = .ok (.bipush 12, 2) := by decide +kernel
theorem d2_66 : decode method_2_code 66 = .ok (.iconst 2, 1) := by decide +kernel
theorem d2_67 : decode method_2_code 67 = .ok (.iastore, 1) := by decide +kernel
theorem d2_68 : decode method_2_code 68 = .ok (.dup, 1) := by decide +kernel
theorem d2_69 : decode method_2_code 69 = .ok (.bipush 13, 2) := by decide +kernel
theorem d2_71 : decode method_2_code 71 = .ok (.iconst 0, 1) := by decide +kernel
theorem d2_72 : decode method_2_code 72 = .ok (.iastore, 1) := by decide +kernel
theorem d2_73 : decode method_2_code 73 = .ok (.dup, 1) := by decide +kernel
theorem d2_74 : decode method_2_code 74 = .ok (.bipush 14, 2) := by decide +kernel
theorem d2_76 : decode method_2_code 76 = .ok (.iconst 1, 1) := by decide +kernel
theorem d2_77 : decode method_2_code 77 = .ok (.iastore, 1) := by decide +kernel
theorem d2_78 : decode method_2_code 78 = .ok (.dup, 1) := by decide +kernel
theorem d2_79 : decode method_2_code 79 = .ok (.bipush 15, 2) := by decide +kernel
theorem d2_81 : decode method_2_code 81 = .ok (.iconst 2, 1) := by decide +kernel
theorem d2_82 : decode method_2_code 82 = .ok (.iastore, 1) := by decide +kernel
theorem d2_83 : decode method_2_code 83 = .ok (.dup, 1) := by decide +kernel
theorem d2_84 : decode method_2_code 84 = .ok (.bipush 16, 2) := by decide +kernel
theorem d2_86 : decode method_2_code 86 = .ok (.iconst 1, 1) := by decide +kernel
theorem d2_87 : decode method_2_code 87 = .ok (.iastore, 1) := by decide +kernel
theorem d2_88 : decode method_2_code 88 = .ok (.dup, 1) := by decide +kernel
theorem d2_89 : decode method_2_code 89 = .ok (.bipush 17, 2) := by decide +kernel
theorem d2_91 : decode method_2_code 91 = .ok (.iconst 0, 1) := by decide +kernel
theorem d2_92 : decode method_2_code 92 = .ok (.iastore, 1) := by decide +kernel
theorem d2_93 : decode method_2_code 93 = .ok (.astore_n 3, 1) := by decide +kernel
theorem d2_94 : decode method_2_code 94 = .ok (.aload_n 3, 1) := by decide +kernel
theorem d2_95 : decode method_2_code 95 = .ok (.iload_n 1, 1) := by decide +kernel
theorem d2_96 : decode method_2_code 96 = .ok (.iconst 3, 1) := by decide +kernel
theorem d2_97 : decode method_2_code 97 = .ok (.imul, 1) := by decide +kernel
theorem d2_98 : decode method_2_code 98 = .ok (.iload_n 2, 1) := by decide +kernel
theorem d2_99 : decode method_2_code 99 = .ok (.iadd, 1) := by decide +kernel
theorem d2_100 : decode method_2_code 100 = .ok (.iaload, 1) := by decide +kernel
theorem d2_101 : decode method_2_code 101 = .ok (.ireturn, 1) := by decide +kernel
theorem d2_102 : decode method_2_code 102 = .ok (.iload_n 0, 1) := by decide +kernel
theorem d2_103 : decode method_2_code 103 = .ok (.iconst 2, 1) := by decide +kernel
theorem d2_104 : decode method_2_code 104 = .ok (.if_icmp .ne 18, 3) := by decide +kernel
theorem d2_107 : decode method_2_code 107 = .ok (.iload_n 1, 1) := by decide +kernel
theorem d2_108 : decode method_2_code 108 = .ok (.iconst 1, 1) := by decide +kernel
theorem d2_109 : decode method_2_code 109 = .ok (.iand, 1) := by decide +kernel
theorem d2_110 : decode method_2_code 110 = .ok (.iconst 1, 1) := by decide +kernel
theorem d2_111 : decode method_2_code 111 = .ok (.if_icmp .ne 9, 3) := by decide +kernel
theorem d2_114 : decode method_2_code 114 = .ok (.iconst 1, 1) := by decide +kernel
theorem d2_115 : decode method_2_code 115 = .ok (.iload_n 2, 1) := by decide +kernel
theorem d2_116 : decode method_2_code 116 = .ok (.isub, 1) := by decide +kernel
theorem d2_117 : decode method_2_code 117 = .ok (.goto 4, 3) := by decide +kernel
theorem d2_120 : decode method_2_code 120 = .ok (.iload_n 2, 1) := by decide +kernel
theorem d2_121 : decode method_2_code 121 = .ok (.ireturn, 1) := by decide +kernel
theorem d2_122 : decode method_2_code 122 = .ok (.iload_n 2, 1) := by decide +kernel
theorem d2_123 : decode method_2_code 123 = .ok (.ireturn, 1) := by decide +kernel
theorem pn_2 : plainName "com/example/damarium/damarium/position/MoveSameSquaresPinLaw" = true := by first | (simp [plainName, overriddenIn]; done) | decide +kernel
theorem ef_2 (m : MethodId) (p1 : Int32) (p2 : Int32) (p3 : Int32) : entryFrame m #[(.int p1), (.int p2), (.int p3)] 4 = mkF m 0 #[.val (.int p1), .val (.int p2), .val (.int p3), .unset] [] := by first | (simp [entryFrame, mkF, argsToLocals, Value.category]; done) | rfl
def Q2 (Z : State) (p1 : Int32) (p2 : Int32) (p3 : Int32) (n : Nat) (q : Nat) (k : Nat) (h0 : Heap) (n0 : Nat) (v : Option Value) (h : Heap) (L : List Loc) : Prop := v = some (.int (Int32.ofNat (own_pos n q k))) ∧ Fr n0 L ∧ Keep h0 h []
set_option maxRecDepth 65536 in
set_option maxHeartbeats 40000000 in
theorem rm2 (l : Launch) (Z : State) (a0 : Array Value) (hw : ∀ d ∈ tables_1, d.before a0 Z = true) (ws : List Jvm.Cond) (p1 : Int32) (p2 : Int32) (p3 : Int32) (n : Nat) (q : Nat) (k : Nat) (h0 : Heap) (n0 : Nat) (Z0 : n0 ≤ h0.size) (e1 : p1 = Int32.ofNat n) (e2 : p2 = Int32.ofNat q) (e3 : p3 = Int32.ofNat k) (hn : n < 4) (hq : q < 6) (hk : k < n) :
    MetFree l (⟨"com/example/damarium/damarium/position/MoveSameSquaresPinLaw", "pos", "(III)I"⟩ : MethodName) (head1 (Jvm.Cond.code (⟨"com/example/damarium/damarium/position/MoveSameSquaresPinLaw", "pos", "(III)I"⟩ : MethodName) method_2_code 4 (some .int) :: ws) ({ frames := 0, cells := 1, slots := 18, locals := 0 } : Room)) (fun a U => a = #[(.int p1), (.int p2), (.int p3)] ∧ Z.Warmed39 U.vm ∧ U.heap = h0) (fun _ _ _ _ _ => True) (fun _ U o U' => ∃ v L, o = .returned v ∧ Q2 Z p1 p2 p3 n q k h0 n0 v U'.heap L ∧ FrameEnd U o U' L ({ frames := 0, cells := 1, slots := 18, locals := 0 } : Room).cells ({ frames := 0, cells := 1, slots := 18, locals := 0 } : Room).slots) := by
  refine MetFree.of_bodySF (plainFor_of_name pn_2) hisR ?_
  intro p e s m args below meth c s₁ Bd hml0 hP hK
  obtain ⟨rfl, hZ, hh⟩ := hP
  have hx := Bd.exec
  have hby := Bd.bytes
  have hlk := Bd.notSynchronized
  have hml : c.maxLocals = 4 := hml0
  have hown : s.vm.findClass "com/example/damarium/damarium/position/MoveSameSquaresPinLaw" = some m.cls := findClass_of_methodNamed Bd.named
  have hnm := (name_of_methodNamed Bd.named Bd.method).1
  have X0 : Stand p l e ({ frames := 0, cells := 1, slots := 18, locals := 0 } : Room) s m #[(.int p1), (.int p2), (.int p3)] below meth c s₁ [] 0 0 := Stand.of_body Bd
  have e0 : s₁.heap = h0 := by rw [← hh, Bd.state]; rfl
  have N0 := Fr.nil n0
  show Goes p e below s 1 18 (Q2 Z p1 p2 p3 n q k h0 n0) s₁ (entryFrame m #[(.int p1), (.int p2), (.int p3)] 4)
  refine goEq (ef_2 m p1 p2 p3) ?_
  refine goEq (g' := (mkF m 0 #[.val (.int (Int32.ofNat n)), .val (.int p2), .val (.int p3), .unset] [])) (by rw [e1]) ?_
  refine goEq (g' := (mkF m 0 #[.val (.int (Int32.ofNat n)), .val (.int (Int32.ofNat q)), .val (.int p3), .unset] [])) (by rw [e2]) ?_
  refine goEq (g' := (mkF m 0 #[.val (.int (Int32.ofNat n)), .val (.int (Int32.ofNat q)), .val (.int (Int32.ofNat k)), .unset] [])) (by rw [e3]) ?_
  refine go (T' := s₁) (g' := (mkF m 1 #[.val (.int (Int32.ofNat n)), .val (.int (Int32.ofNat q)), .val (.int (Int32.ofNat k)), .unset] [(.int (Int32.ofNat n))])) (fun t kt => XS.iloadN X0.here hx rfl (hb hby d2_0) rfl kt) ?_
  refine go (T' := s₁) (g' := (mkF m 2 #[.val (.int (Int32.ofNat n)), .val (.int (Int32.ofNat q)), .val (.int (Int32.ofNat k)), .unset] [(.int (3 : Int32)), (.int (Int32.ofNat n))])) (fun t kt => XS.iconst X0.here hx rfl (hb hby d2_1) kt) ?_
  by_cases h3 : (Int32.ofNat n) = (3 : Int32)
  · refine go (T' := s₁) (g' := (mkF m 5 #[.val (.int (Int32.ofNat n)), .val (.int (Int32.ofNat q)), .val (.int (Int32.ofNat k)), .unset] [])) (fun t kt => XS.icmpNo X0.here hx rfl (hb hby d2_2) rfl (teq h3).2 kt) ?_
    have k3 : n = 3 := (nn_eq (j := 3) (by omega) (by omega)).mp h3
    refine go (T' := s₁) (g' := (mkF m 7 #[.val (.int (Int32.ofNat n)), .val (.int (Int32.ofNat q)), .val (.int (Int32.ofNat k)), .unset] [(.int (18 : Int32))])) (fun t kt => XS.bipush X0.here hx rfl (hb hby d2_5) kt) ?_
    obtain ⟨T1001, h1001, kc1001, X1001, e1001, E1001, A1001, st1001⟩ := newP X0 hx hZ (hw _ (List.mem_of_getElem? (i := 0) rfl)) e0 (g := (mkF m 7 #[.val (.int (Int32.ofNat n)), .val (.int (Int32.ofNat q)), .val (.int (Int32.ofNat k)), .unset] [(.int (18 : Int32))])) rfl (hb hby d2_7) rfl (by decide) (cap := 18) (by decide) (by decide) (by decide) (by decide)
    obtain ⟨bt, g1001⟩ : ∃ z, z = h0.size := ⟨_, rfl⟩
    rw [← g1001] at A1001 st1001
    have g_bt : n0 ≤ bt := Nat.le_trans Z0 (Nat.le_of_eq g1001.symm)
    have o_bt : h0.size ≤ bt := Nat.le_trans (Keep.refl h0 []).1 (Nat.le_of_eq g1001.symm)
    have z1001 : n0 ≤ h1001.size := Nat.le_trans Z0 E1001.1
    have K1001 : Keep h0 h1001 [] := (Keep.refl h0 []).ext E1001
    have V_bt : Aw Z h1001 bt .int (18 : Int32) (fun _ => defaultValue .int) := Aw.new A1001 (by decide)
    refine go (T' := T1001) (g' := (mkF m 9 #[.val (.int (Int32.ofNat n)), .val (.int (Int32.ofNat q)), .val (.int (Int32.ofNat k)), .unset] [(.ref bt)])) st1001 ?_
    refine go (T' := T1001) (g' := (mkF m 10 #[.val (.int (Int32.ofNat n)), .val (.int (Int32.ofNat q)), .val (.int (Int32.ofNat k)), .unset] [(.ref bt), (.ref bt)])) (fun t kt => XS.dup X1001.here hx rfl (hb hby d2_9) rfl rfl kt) ?_
    refine go (T' := T1001) (g' := (mkF m 11 #[.val (.int (Int32.ofNat n)), .val (.int (Int32.ofNat q)), .val (.int (Int32.ofNat k)), .unset] [(.int (0 : Int32)), (.ref bt), (.ref bt)])) (fun t kt => XS.iconst X1001.here hx rfl (hb hby d2_10) kt) ?_
    refine go (T' := T1001) (g' := (mkF m 12 #[.val (.int (Int32.ofNat n)), .val (.int (Int32.ofNat q)), .val (.int (Int32.ofNat k)), .unset] [(.int (0 : Int32)), (.int (0 : Int32)), (.ref bt), (.ref bt)])) (fun t kt => XS.iconst X1001.here hx rfl (hb hby d2_11) kt) ?_
    obtain ⟨T1002, h1002, X1002, e1002, W1002, V1002, st1002⟩ := own_stI X1001 hx hZ e1001 V_bt (j := (0 : Int32)) ⟨by decide, by decide⟩ (g := (mkF m 12 #[.val (.int (Int32.ofNat n)), .val (.int (Int32.ofNat q)), .val (.int (Int32.ofNat k)), .unset] [(.int (0 : Int32)), (.int (0 : Int32)), (.ref bt), (.ref bt)])) rfl rfl (hb hby d2_12)
    have z1002 : n0 ≤ h1002.size := Nat.le_trans z1001 (Keep.of_wr W1002).1
    have K1002 : Keep h0 h1002 [] := K1001.wr W1002 (Or.inr o_bt)
    have N1002 := Fr.snoc X1002 N0 g_bt
    refine go (T' := T1002) (g' := (mkF m 13 #[.val (.int (Int32.ofNat n)), .val (.int (Int32.ofNat q)), .val (.int (Int32.ofNat k)), .unset] [(.ref bt)])) st1002 ?_
    refine go (T' := T1002) (g' := (mkF m 14 #[.val (.int (Int32.ofNat n)), .val (.int (Int32.ofNat q)), .val (.int (Int32.ofNat k)), .unset] [(.ref bt), (.ref bt)])) (fun t kt => XS.dup X1002.here hx rfl (hb hby d2_13) rfl rfl kt) ?_
    refine go (T' := T1002) (g' := (mkF m 15 #[.val (.int (Int32.ofNat n)), .val (.int (Int32.ofNat q)), .val (.int (Int32.ofNat k)), .unset] [(.int (1 : Int32)), (.ref bt), (.ref bt)])) (fun t kt => XS.iconst X1002.here hx rfl (hb hby d2_14) kt) ?_
    refine go (T' := T1002) (g' := (mkF m 16 #[.val (.int (Int32.ofNat n)), .val (.int (Int32.ofNat q)), .val (.int (Int32.ofNat k)), .unset] [(.int (1 : Int32)), (.int (1 : Int32)), (.ref bt), (.ref bt)])) (fun t kt => XS.iconst X1002.here hx rfl (hb hby d2_15) kt) ?_
    obtain ⟨T1003, h1003, X1003, e1003, W1003, V1003, st1003⟩ := own_stI X1002 hx hZ e1002 V1002 (j := (1 : Int32)) ⟨by decide, by decide⟩ (g := (mkF m 16 #[.val (.int (Int32.ofNat n)), .val (.int (Int32.ofNat q)), .val (.int (Int32.ofNat k)), .unset] [(.int (1 : Int32)), (.int (1 : Int32)), (.ref bt), (.ref bt)])) rfl rfl (hb hby d2_16)
    have z1003 : n0 ≤ h1003.size := Nat.le_trans z1002 (Keep.of_wr W1003).1
    have K1003 : Keep h0 h1003 [] := K1002.wr W1003 (Or.inr o_bt)
    have N1003 := Fr.snoc X1003 N1002 g_bt
    refine go (T' := T1003) (g' := (mkF m 17 #[.val (.int (Int32.ofNat n)), .val (.int (Int32.ofNat q)), .val (.int (Int32.ofNat k)), .unset] [(.ref bt)])) st1003 ?_
    refine go (T' := T1003) (g' := (mkF m 18 #[.val (.int (Int32.ofNat n)), .val (.int (Int32.ofNat q)), .val (.int (Int32.ofNat k)), .unset] [(.ref bt), (.ref bt)])) (fun t kt => XS.dup X1003.here hx rfl (hb hby d2_17) rfl rfl kt) ?_
    refine go (T' := T1003) (g' := (mkF m 19 #[.val (.int (Int32.ofNat n)), .val (.int (Int32.ofNat q)), .val (.int (Int32.ofNat k)), .unset] [(.int (2 : Int32)), (.ref bt), (.ref bt)])) (fun t kt => XS.iconst X1003.here hx rfl (hb hby d2_18) kt) ?_
    refine go (T' := T1003) (g' := (mkF m 20 #[.val (.int (Int32.ofNat n)), .val (.int (Int32.ofNat q)), .val (.int (Int32.ofNat k)), .unset] [(.int (2 : Int32)), (.int (2 : Int32)), (.ref bt), (.ref bt)])) (fun t kt => XS.iconst X1003.here hx rfl (hb hby d2_19) kt) ?_
    obtain ⟨T1004, h1004, X1004, e1004, W1004, V1004, st1004⟩ := own_stI X1003 hx hZ e1003 V1003 (j := (2 : Int32)) ⟨by decide, by decide⟩ (g := (mkF m 20 #[.val (.int (Int32.ofNat n)), .val (.int (Int32.ofNat q)), .val (.int (Int32.ofNat k)), .unset] [(.int (2 : Int32)), (.int (2 : Int32)), (.ref bt), (.ref bt)])) rfl rfl (hb hby d2_20)
    have z1004 : n0 ≤ h1004.size := Nat.le_trans z1003 (Keep.of_wr W1004).1
    have K1004 : Keep h0 h1004 [] := K1003.wr W1004 (Or.inr o_bt)
    have N1004 := Fr.snoc X1004 N1003 g_bt
    refine go (T' := T1004) (g' := (mkF m 21 #[.val (.int (Int32.ofNat n)), .val (.int (Int32.ofNat q)), .val (.int (Int32.ofNat k)), .unset] [(.ref bt)])) st1004 ?_
    refine go (T' := T1004) (g' := (mkF m 22 #[.val (.int (Int32.ofNat n)), .val (.int (Int32.ofNat q)), .val (.int (Int32.ofNat k)), .unset] [(.ref bt), (.ref bt)])) (fun t kt => XS.dup X1004.here hx rfl (hb hby d2_21) rfl rfl kt) ?_
    refine go (T' := T1004) (g' := (mkF m 23 #[.val (.int (Int32.ofNat n)), .val (.int (Int32.ofNat q)), .val (.int (Int32.ofNat k)), .unset] [(.int (3 : Int32)), (.ref bt), (.ref bt)])) (fun t kt => XS.iconst X1004.here hx rfl (hb hby d2_22) kt) ?_
    refine go (T' := T1004) (g' := (mkF m 24 #[.val (.int (Int32.ofNat n)), .val (.int (Int32.ofNat q)), .val (.int (Int32.ofNat k)), .unset] [(.int (0 : Int32)), (.int (3 : Int32)), (.ref bt), (.ref bt)])) (fun t kt => XS.iconst X1004.here hx rfl (hb hby d2_23) kt) ?_
    obtain ⟨T1005, h1005, X1005, e1005, W1005, V1005, st1005⟩ := own_stI X1004 hx hZ e1004 V1004 (j := (3 : Int32)) ⟨by decide, by decide⟩ (g := (mkF m 24 #[.val (.int (Int32.ofNat n)), .val (.int (Int32.ofNat q)), .val (.int (Int32.ofNat k)), .unset] [(.int (0 : Int32)), (.int (3 : Int32)), (.ref bt), (.ref bt)])) rfl rfl (hb hby d2_24)
    have z1005 : n0 ≤ h1005.size := Nat.le_trans z1004 (Keep.of_wr W1005).1
    have K1005 : Keep h0 h1005 [] := K1004.wr W1005 (Or.inr o_bt)
    have N1005 := Fr.snoc X1005 N1004 g_bt
    refine go (T' := T1005) (g' := (mkF m 25 #[.val (.int (Int32.ofNat n)), .val (.int (Int32.ofNat q)), .val (.int (Int32.ofNat k)), .unset] [(.ref bt)])) st1005 ?_
    refine go (T' := T1005) (g' := (mkF m 26 #[.val (.int (Int32.ofNat n)), .val (.int (Int32.ofNat q)), .val (.int (Int32.ofNat k)), .unset] [(.ref bt), (.ref bt)])) (fun t kt => XS.dup X1005.here hx rfl (hb hby d2_25) rfl rfl kt) ?_
    refine go (T' := T1005) (g' := (mkF m 27 #[.val (.int (Int32.ofNat n)), .val (.int (Int32.ofNat q)), .val (.int (Int32.ofNat k)), .unset] [(.int (4 : Int32)), (.ref bt), (.ref bt)])) (fun t kt => XS.iconst X1005.here hx rfl (hb hby d2_26) kt) ?_
    refine go (T' := T1005) (g' := (mkF m 28 #[.val (.int (Int32.ofNat n)), .val (.int (Int32.ofNat q)), .val (.int (Int32.ofNat k)), .unset] [(.int (2 : Int32)), (.int (4 : Int32)), (.ref bt), (.ref bt)])) (fun t kt => XS.iconst X1005.here hx rfl (hb hby d2_27) kt) ?_
    obtain ⟨T1006, h1006, X1006, e1006, W1006, V1006, st1006⟩ := own_stI X1005 hx hZ e1005 V1005 (j := (4 : Int32)) ⟨by decide, by decide⟩ (g := (mkF m 28 #[.val (.int (Int32.ofNat n)), .val (.int (Int32.ofNat q)), .val (.int (Int32.ofNat k)), .unset] [(.int (2 : Int32)), (.int (4 : Int32)), (.ref bt), (.ref bt)])) rfl rfl (hb hby d2_28)
    have z1006 : n0 ≤ h1006.size := Nat.le_trans z1005 (Keep.of_wr W1006).1
    have K1006 : Keep h0 h1006 [] := K1005.wr W1006 (Or.inr o_bt)
    have N1006 := Fr.snoc X1006 N1005 g_bt
    refine go (T' := T1006) (g' := (mkF m 29 #[.val (.int (Int32.ofNat n)), .val (.int (Int32.ofNat q)), .val (.int (Int32.ofNat k)), .unset] [(.ref bt)])) st1006 ?_
    refine go (T' := T1006) (g' := (mkF m 30 #[.val (.int (Int32.ofNat n)), .val (.int (Int32.ofNat q)), .val (.int (Int32.ofNat k)), .unset] [(.ref bt), (.ref bt)])) (fun t kt => XS.dup X1006.here hx rfl (hb hby d2_29) rfl rfl kt) ?_
    refine go (T' := T1006) (g' := (mkF m 31 #[.val (.int (Int32.ofNat n)), .val (.int (Int32.ofNat q)), .val (.int (Int32.ofNat k)), .unset] [(.int (5 : Int32)), (.ref bt), (.ref bt)])) (fun t kt => XS.iconst X1006.here hx rfl (hb hby d2_30) kt) ?_
    refine go (T' := T1006) (g' := (mkF m 32 #[.val (.int (Int32.ofNat n)), .val (.int (Int32.ofNat q)), .val (.int (Int32.ofNat k)), .unset] [(.int (1 : Int32)), (.int (5 : Int32)), (.ref bt), (.ref bt)])) (fun t kt => XS.iconst X1006.here hx rfl (hb hby d2_31) kt) ?_
    obtain ⟨T1007, h1007, X1007, e1007, W1007, V1007, st1007⟩ := own_stI X1006 hx hZ e1006 V1006 (j := (5 : Int32)) ⟨by decide, by decide⟩ (g := (mkF m 32 #[.val (.int (Int32.ofNat n)), .val (.int (Int32.ofNat q)), .val (.int (Int32.ofNat k)), .unset] [(.int (1 : Int32)), (.int (5 : Int32)), (.ref bt), (.ref bt)])) rfl rfl (hb hby d2_32)
    have z1007 : n0 ≤ h1007.size := Nat.le_trans z1006 (Keep.of_wr W1007).1
    have K1007 : Keep h0 h1007 [] := K1006.wr W1007 (Or.inr o_bt)
    have N1007 := Fr.snoc X1007 N1006 g_bt
    refine go (T' := T1007) (g' := (mkF m 33 #[.val (.int (Int32.ofNat n)), .val (.int (Int32.ofNat q)), .val (.int (Int32.ofNat k)), .unset] [(.ref bt)])) st1007 ?_
    refine go (T' := T1007) (g' := (mkF m 34 #[.val (.int (Int32.ofNat n)), .val (.int (Int32.ofNat q)), .val (.int (Int32.ofNat k)), .unset] [(.ref bt), (.ref bt)])) (fun t kt => XS.dup X1007.here hx rfl (hb hby d2_33) rfl rfl kt) ?_
    refine go (T' := T1007) (g' := (mkF m 36 #[.val (.int (Int32.ofNat n)), .val (.int (Int32.ofNat q)), .val (.int (Int32.ofNat k)), .unset] [(.int (6 : Int32)), (.ref bt), (.ref bt)])) (fun t kt => XS.bipush X1007.here hx rfl (hb hby d2_34) kt) ?_
    refine go (T' := T1007) (g' := (mkF m 37 #[.val (.int (Int32.ofNat n)), .val (.int (Int32.ofNat q)), .val (.int (Int32.ofNat k)), .unset] [(.int (1 : Int32)), (.int (6 : Int32)), (.ref bt), (.ref bt)])) (fun t kt => XS.iconst X1007.here hx rfl (hb hby d2_36) kt) ?_
    obtain ⟨T1008, h1008, X1008, e1008, W1008, V1008, st1008⟩ := own_stI X1007 hx hZ e1007 V1007 (j := (6 : Int32)) ⟨by decide, by decide⟩ (g := (mkF m 37 #[.val (.int (Int32.ofNat n)), .val (.int (Int32.ofNat q)), .val (.int (Int32.ofNat k)), .unset] [(.int (1 : Int32)), (.int (6 : Int32)), (.ref bt), (.ref bt)])) rfl rfl (hb hby d2_37)
    have z1008 : n0 ≤ h1008.size := Nat.le_trans z1007 (Keep.of_wr W1008).1
    have K1008 : Keep h0 h1008 [] := K1007.wr W1008 (Or.inr o_bt)
    have N1008 := Fr.snoc X1008 N1007 g_bt
    refine go (T' := T1008) (g' := (mkF m 38 #[.val (.int (Int32.ofNat n)), .val (.int (Int32.ofNat q)), .val (.int (Int32.ofNat k)), .unset] [(.ref bt)])) st1008 ?_
    refine go (T' := T1008) (g' := (mkF m 39 #[.val (.int (Int32.ofNat n)), .val (.int (Int32.ofNat q)), .val (.int (Int32.ofNat k)), .unset] [(.ref bt), (.ref bt)])) (fun t kt => XS.dup X1008.here hx rfl (hb hby d2_38) rfl rfl kt) ?_
    refine go (T' := T1008) (g' := (mkF m 41 #[.val (.int (Int32.ofNat n)), .val (.int (Int32.ofNat q)), .val (.int (Int32.ofNat k)), .unset] [(.int (7 : Int32)), (.ref bt), (.ref bt)])) (fun t kt => XS.bipush X1008.here hx rfl (hb hby d2_39) kt) ?_
    refine go (T' := T1008) (g' := (mkF m 42 #[.val (.int (Int32.ofNat n)), .val (.int (Int32.ofNat q)), .val (.int (Int32.ofNat k)), .unset] [(.int (0 : Int32)), (.int (7 : Int32)), (.ref bt), (.ref bt)])) (fun t kt => XS.iconst X1008.here hx rfl (hb hby d2_41) kt) ?_
    obtain ⟨T1009, h1009, X1009, e1009, W1009, V1009, st1009⟩ := own_stI X1008 hx hZ e1008 V1008 (j := (7 : Int32)) ⟨by decide, by decide⟩ (g := (mkF m 42 #[.val (.int (Int32.ofNat n)), .val (.int (Int32.ofNat q)), .val (.int (Int32.ofNat k)), .unset] [(.int (0 : Int32)), (.int (7 : Int32)), (.ref bt), (.ref bt)])) rfl rfl (hb hby d2_42)
    have z1009 : n0 ≤ h1009.size := Nat.le_trans z1008 (Keep.of_wr W1009).1
    have K1009 : Keep h0 h1009 [] := K1008.wr W1009 (Or.inr o_bt)
    have N1009 := Fr.snoc X1009 N1008 g_bt
    refine go (T' := T1009) (g' := (mkF m 43 #[.val (.int (Int32.ofNat n)), .val (.int (Int32.ofNat q)), .val (.int (Int32.ofNat k)), .unset] [(.ref bt)])) st1009 ?_
    refine go (T' := T1009) (g' := (mkF m 44 #[.val (.int (Int32.ofNat n)), .val (.int (Int32.ofNat q)), .val (.int (Int32.ofNat k)), .unset] [(.ref bt), (.ref bt)])) (fun t kt => XS.dup X1009.here hx rfl (hb hby d2_43) rfl rfl kt) ?_
    refine go (T' := T1009) (g' := (mkF m 46 #[.val (.int (Int32.ofNat n)), .val (.int (Int32.ofNat q)), .val (.int (Int32.ofNat k)), .unset] [(.int (8 : Int32)), (.ref bt), (.ref bt)])) (fun t kt => XS.bipush X1009.here hx rfl (hb hby d2_44) kt) ?_
    refine go (T' := T1009) (g' := (mkF m 47 #[.val (.int (Int32.ofNat n)), .val (.int (Int32.ofNat q)), .val (.int (Int32.ofNat k)), .unset] [(.int (2 : Int32)), (.int (8 : Int32)), (.ref bt), (.ref bt)])) (fun t kt => XS.iconst X1009.here hx rfl (hb hby d2_46) kt) ?_
    obtain ⟨T1010, h1010, X1010, e1010, W1010, V1010, st1010⟩ := own_stI X1009 hx hZ e1009 V1009 (j := (8 : Int32)) ⟨by decide, by decide⟩ (g := (mkF m 47 #[.val (.int (Int32.ofNat n)), .val (.int (Int32.ofNat q)), .val (.int (Int32.ofNat k)), .unset] [(.int (2 : Int32)), (.int (8 : Int32)), (.ref bt), (.ref bt)])) rfl rfl (hb hby d2_47)
    have z1010 : n0 ≤ h1010.size := Nat.le_trans z1009 (Keep.of_wr W1010).1
    have K1010 : Keep h0 h1010 [] := K1009.wr W1010 (Or.inr o_bt)
    have N1010 := Fr.snoc X1010 N1009 g_bt
    refine go (T' := T1010) (g' := (mkF m 48 #[.val (.int (Int32.ofNat n)), .val (.int (Int32.ofNat q)), .val (.int (Int32.ofNat k)), .unset] [(.ref bt)])) st1010 ?_
    refine go (T' := T1010) (g' := (mkF m 49 #[.val (.int (Int32.ofNat n)), .val (.int (Int32.ofNat q)), .val (.int (Int32.ofNat k)), .unset] [(.ref bt), (.ref bt)])) (fun t kt => XS.dup X1010.here hx rfl (hb hby d2_48) rfl rfl kt) ?_
    refine go (T' := T1010) (g' := (mkF m 51 #[.val (.int (Int32.ofNat n)), .val (.int (Int32.ofNat q)), .val (.int (Int32.ofNat k)), .unset] [(.int (9 : Int32)), (.ref bt), (.ref bt)])) (fun t kt => XS.bipush X1010.here hx rfl (hb hby d2_49) kt) ?_
    refine go (T' := T1010) (g' := (mkF m 52 #[.val (.int (Int32.ofNat n)), .val (.int (Int32.ofNat q)), .val (.int (Int32.ofNat k)), .unset] [(.int (1 : Int32)), (.int (9 : Int32)), (.ref bt), (.ref bt)])) (fun t kt => XS.iconst X1010.here hx rfl (hb hby d2_51) kt) ?_
    obtain ⟨T1011, h1011, X1011, e1011, W1011, V1011, st1011⟩ := own_stI X1010 hx hZ e1010 V1010 (j := (9 : Int32)) ⟨by decide, by decide⟩ (g := (mkF m 52 #[.val (.int (Int32.ofNat n)), .val (.int (Int32.ofNat q)), .val (.int (Int32.ofNat k)), .unset] [(.int (1 : Int32)), (.int (9 : Int32)), (.ref bt), (.ref bt)])) rfl rfl (hb hby d2_52)
    have z1011 : n0 ≤ h1011.size := Nat.le_trans z1010 (Keep.of_wr W1011).1
    have K1011 : Keep h0 h1011 [] := K1010.wr W1011 (Or.inr o_bt)
    have N1011 := Fr.snoc X1011 N1010 g_bt
    refine go (T' := T1011) (g' := (mkF m 53 #[.val (.int (Int32.ofNat n)), .val (.int (Int32.ofNat q)), .val (.int (Int32.ofNat k)), .unset] [(.ref bt)])) st1011 ?_
    refine go (T' := T1011) (g' := (mkF m 54 #[.val (.int (Int32.ofNat n)), .val (.int (Int32.ofNat q)), .val (.int (Int32.ofNat k)), .unset] [(.ref bt), (.ref bt)])) (fun t kt => XS.dup X1011.here hx rfl (hb hby d2_53) rfl rfl kt) ?_
    refine go (T' := T1011) (g' := (mkF m 56 #[.val (.int (Int32.ofNat n)), .val (.int (Int32.ofNat q)), .val (.int (Int32.ofNat k)), .unset] [(.int (10 : Int32)), (.ref bt), (.ref bt)])) (fun t kt => XS.bipush X1011.here hx rfl (hb hby d2_54) kt) ?_
    refine go (T' := T1011) (g' := (mkF m 57 #[.val (.int (Int32.ofNat n)), .val (.int (Int32.ofNat q)), .val (.int (Int32.ofNat k)), .unset] [(.int (2 : Int32)), (.int (10 : Int32)), (.ref bt), (.ref bt)])) (fun t kt => XS.iconst X1011.here hx rfl (hb hby d2_56) kt) ?_
    obtain ⟨T1012, h1012, X1012, e1012, W1012, V1012, st1012⟩ := own_stI X1011 hx hZ e1011 V1011 (j := (10 : Int32)) ⟨by decide, by decide⟩ (g := (mkF m 57 #[.val (.int (Int32.ofNat n)), .val (.int (Int32.ofNat q)), .val (.int (Int32.ofNat k)), .unset] [(.int (2 : Int32)), (.int (10 : Int32)), (.ref bt), (.ref bt)])) rfl rfl (hb hby d2_57)
    have z1012 : n0 ≤ h1012.size := Nat.le_trans z1011 (Keep.of_wr W1012).1
    have K1012 : Keep h0 h1012 [] := K1011.wr W1012 (Or.inr o_bt)
    have N1012 := Fr.snoc X1012 N1011 g_bt
    refine go (T' := T1012) (g' := (mkF m 58 #[.val (.int (Int32.ofNat n)), .val (.int (Int32.ofNat q)), .val (.int (Int32.ofNat k)), .unset] [(.ref bt)])) st1012 ?_
    refine go (T' := T1012) (g' := (mkF m 59 #[.val (.int (Int32.ofNat n)), .val (.int (Int32.ofNat q)), .val (.int (Int32.ofNat k)), .unset] [(.ref bt), (.ref bt)])) (fun t kt => XS.dup X1012.here hx rfl (hb hby d2_58) rfl rfl kt) ?_
    refine go (T' := T1012) (g' := (mkF m 61 #[.val (.int (Int32.ofNat n)), .val (.int (Int32.ofNat q)), .val (.int (Int32.ofNat k)), .unset] [(.int (11 : Int32)), (.ref bt), (.ref bt)])) (fun t kt => XS.bipush X1012.here hx rfl (hb hby d2_59) kt) ?_
    refine go (T' := T1012) (g' := (mkF m 62 #[.val (.int (Int32.ofNat n)), .val (.int (Int32.ofNat q)), .val (.int (Int32.ofNat k)), .unset] [(.int (0 : Int32)), (.int (11 : Int32)), (.ref bt), (.ref bt)])) (fun t kt => XS.iconst X1012.here hx rfl (hb hby d2_61) kt) ?_
    obtain ⟨T1013, h1013, X1013, e1013, W1013, V1013, st1013⟩ := own_stI X1012 hx hZ e1012 V1012 (j := (11 : Int32)) ⟨by decide, by decide⟩ (g := (mkF m 62 #[.val (.int (Int32.ofNat n)), .val (.int (Int32.ofNat q)), .val (.int (Int32.ofNat k)), .unset] [(.int (0 : Int32)), (.int (11 : Int32)), (.ref bt), (.ref bt)])) rfl rfl (hb hby d2_62)
    have z1013 : n0 ≤ h1013.size := Nat.le_trans z1012 (Keep.of_wr W1013).1
    have K1013 : Keep h0 h1013 [] := K1012.wr W1013 (Or.inr o_bt)
    have N1013 := Fr.snoc X1013 N1012 g_bt
    refine go (T' := T1013) (g' := (mkF m 63 #[.val (.int (Int32.ofNat n)), .val (.int (Int32.ofNat q)), .val (.int (Int32.ofNat k)), .unset] [(.ref bt)])) st1013 ?_
    refine go (T' := T1013) (g' := (mkF m 64 #[.val (.int (Int32.ofNat n)), .val (.int (Int32.ofNat q)), .val (.int (Int32.ofNat k)), .unset] [(.ref bt), (.ref bt)])) (fun t kt => XS.dup X1013.here hx rfl (hb hby d2_63) rfl rfl kt) ?_
    refine go (T' := T1013) (g' := (mkF m 66 #[.val (.int (Int32.ofNat n)), .val (.int (Int32.ofNat q)), .val (.int (Int32.ofNat k)), .unset] [(.int (12 : Int32)), (.ref bt), (.ref bt)])) (fun t kt => XS.bipush X1013.here hx rfl (hb hby d2_64) kt) ?_
    refine go (T' := T1013) (g' := (mkF m 67 #[.val (.int (Int32.ofNat n)), .val (.int (Int32.ofNat q)), .val (.int (Int32.ofNat k)), .unset] [(.int (2 : Int32)), (.int (12 : Int32)), (.ref bt), (.ref bt)])) (fun t kt => XS.iconst X1013.here hx rfl (hb hby d2_66) kt) ?_
    obtain ⟨T1014, h1014, X1014, e1014, W1014, V1014, st1014⟩ := own_stI X1013 hx hZ e1013 V1013 (j := (12 : Int32)) ⟨by decide, by decide⟩ (g := (mkF m 67 #[.val (.int (Int32.ofNat n)), .val (.int (Int32.ofNat q)), .val (.int (Int32.ofNat k)), .unset] [(.int (2 : Int32)), (.int (12 : Int32)), (.ref bt), (.ref bt)])) rfl rfl (hb hby d2_67)
    have z1014 : n0 ≤ h1014.size := Nat.le_trans z1013 (Keep.of_wr W1014).1
    have K1014 : Keep h0 h1014 [] := K1013.wr W1014 (Or.inr o_bt)
    have N1014 := Fr.snoc X1014 N1013 g_bt
    refine go (T' := T1014) (g' := (mkF m 68 #[.val (.int (Int32.ofNat n)), .val (.int (Int32.ofNat q)), .val (.int (Int32.ofNat k)), .unset] [(.ref bt)])) st1014 ?_
    refine go (T' := T1014) (g' := (mkF m 69 #[.val (.int (Int32.ofNat n)), .val (.int (Int32.ofNat q)), .val (.int (Int32.ofNat k)), .unset] [(.ref bt), (.ref bt)])) (fun t kt => XS.dup X1014.here hx rfl (hb hby d2_68) rfl rfl kt) ?_
    refine go (T' := T1014) (g' := (mkF m 71 #[.val (.int (Int32.ofNat n)), .val (.int (Int32.ofNat q)), .val (.int (Int32.ofNat k)), .unset] [(.int (13 : Int32)), (.ref bt), (.ref bt)])) (fun t kt => XS.bipush X1014.here hx rfl (hb hby d2_69) kt) ?_
    refine go (T' := T1014) (g' := (mkF m 72 #[.val (.int (Int32.ofNat n)), .val (.int (Int32.ofNat q)), .val (.int (Int32.ofNat k)), .unset] [(.int (0 : Int32)), (.int (13 : Int32)), (.ref bt), (.ref bt)])) (fun t kt => XS.iconst X1014.here hx rfl (hb hby d2_71) kt) ?_
    obtain ⟨T1015, h1015, X1015, e1015, W1015, V1015, st1015⟩ := own_stI X1014 hx hZ e1014 V1014 (j := (13 : Int32)) ⟨by decide, by decide⟩ (g := (mkF m 72 #[.val (.int (Int32.ofNat n)), .val (.int (Int32.ofNat q)), .val (.int (Int32.ofNat k)), .unset] [(.int (0 : Int32)), (.int (13 : Int32)), (.ref bt), (.ref bt)])) rfl rfl (hb hby d2_72)
    have z1015 : n0 ≤ h1015.size := Nat.le_trans z1014 (Keep.of_wr W1015).1
    have K1015 : Keep h0 h1015 [] := K1014.wr W1015 (Or.inr o_bt)
    have N1015 := Fr.snoc X1015 N1014 g_bt
    refine go (T' := T1015) (g' := (mkF m 73 #[.val (.int (Int32.ofNat n)), .val (.int (Int32.ofNat q)), .val (.int (Int32.ofNat k)), .unset] [(.ref bt)])) st1015 ?_
    refine go (T' := T1015) (g' := (mkF m 74 #[.val (.int (Int32.ofNat n)), .val (.int (Int32.ofNat q)), .val (.int (Int32.ofNat k)), .unset] [(.ref bt), (.ref bt)])) (fun t kt => XS.dup X1015.here hx rfl (hb hby d2_73) rfl rfl kt) ?_
    refine go (T' := T1015) (g' := (mkF m 76 #[.val (.int (Int32.ofNat n)), .val (.int (Int32.ofNat q)), .val (.int (Int32.ofNat k)), .unset] [(.int (14 : Int32)), (.ref bt), (.ref bt)])) (fun t kt => XS.bipush X1015.here hx rfl (hb hby d2_74) kt) ?_
    refine go (T' := T1015) (g' := (mkF m 77 #[.val (.int (Int32.ofNat n)), .val (.int (Int32.ofNat q)), .val (.int (Int32.ofNat k)), .unset] [(.int (1 : Int32)), (.int (14 : Int32)), (.ref bt), (.ref bt)])) (fun t kt => XS.iconst X1015.here hx rfl (hb hby d2_76) kt) ?_
    obtain ⟨T1016, h1016, X1016, e1016, W1016, V1016, st1016⟩ := own_stI X1015 hx hZ e1015 V1015 (j := (14 : Int32)) ⟨by decide, by decide⟩ (g := (mkF m 77 #[.val (.int (Int32.ofNat n)), .val (.int (Int32.ofNat q)), .val (.int (Int32.ofNat k)), .unset] [(.int (1 : Int32)), (.int (14 : Int32)), (.ref bt), (.ref bt)])) rfl rfl (hb hby d2_77)
    have z1016 : n0 ≤ h1016.size := Nat.le_trans z1015 (Keep.of_wr W1016).1
    have K1016 : Keep h0 h1016 [] := K1015.wr W1016 (Or.inr o_bt)
    have N1016 := Fr.snoc X1016 N1015 g_bt
    refine go (T' := T1016) (g' := (mkF m 78 #[.val (.int (Int32.ofNat n)), .val (.int (Int32.ofNat q)), .val (.int (Int32.ofNat k)), .unset] [(.ref bt)])) st1016 ?_
    refine go (T' := T1016) (g' := (mkF m 79 #[.val (.int (Int32.ofNat n)), .val (.int (Int32.ofNat q)), .val (.int (Int32.ofNat k)), .unset] [(.ref bt), (.ref bt)])) (fun t kt => XS.dup X1016.here hx rfl (hb hby d2_78) rfl rfl kt) ?_
    refine go (T' := T1016) (g' := (mkF m 81 #[.val (.int (Int32.ofNat n)), .val (.int (Int32.ofNat q)), .val (.int (Int32.ofNat k)), .unset] [(.int (15 : Int32)), (.ref bt), (.ref bt)])) (fun t kt => XS.bipush X1016.here hx rfl (hb hby d2_79) kt) ?_
    refine go (T' := T1016) (g' := (mkF m 82 #[.val (.int (Int32.ofNat n)), .val (.int (Int32.ofNat q)), .val (.int (Int32.ofNat k)), .unset] [(.int (2 : Int32)), (.int (15 : Int32)), (.ref bt), (.ref bt)])) (fun t kt => XS.iconst X1016.here hx rfl (hb hby d2_81) kt) ?_
    obtain ⟨T1017, h1017, X1017, e1017, W1017, V1017, st1017⟩ := own_stI X1016 hx hZ e1016 V1016 (j := (15 : Int32)) ⟨by decide, by decide⟩ (g := (mkF m 82 #[.val (.int (Int32.ofNat n)), .val (.int (Int32.ofNat q)), .val (.int (Int32.ofNat k)), .unset] [(.int (2 : Int32)), (.int (15 : Int32)), (.ref bt), (.ref bt)])) rfl rfl (hb hby d2_82)
    have z1017 : n0 ≤ h1017.size := Nat.le_trans z1016 (Keep.of_wr W1017).1
    have K1017 : Keep h0 h1017 [] := K1016.wr W1017 (Or.inr o_bt)
    have N1017 := Fr.snoc X1017 N1016 g_bt
    refine go (T' := T1017) (g' := (mkF m 83 #[.val (.int (Int32.ofNat n)), .val (.int (Int32.ofNat q)), .val (.int (Int32.ofNat k)), .unset] [(.ref bt)])) st1017 ?_
    refine go (T' := T1017) (g' := (mkF m 84 #[.val (.int (Int32.ofNat n)), .val (.int (Int32.ofNat q)), .val (.int (Int32.ofNat k)), .unset] [(.ref bt), (.ref bt)])) (fun t kt => XS.dup X1017.here hx rfl (hb hby d2_83) rfl rfl kt) ?_
    refine go (T' := T1017) (g' := (mkF m 86 #[.val (.int (Int32.ofNat n)), .val (.int (Int32.ofNat q)), .val (.int (Int32.ofNat k)), .unset] [(.int (16 : Int32)), (.ref bt), (.ref bt)])) (fun t kt => XS.bipush X1017.here hx rfl (hb hby d2_84) kt) ?_
    refine go (T' := T1017) (g' := (mkF m 87 #[.val (.int (Int32.ofNat n)), .val (.int (Int32.ofNat q)), .val (.int (Int32.ofNat k)), .unset] [(.int (1 : Int32)), (.int (16 : Int32)), (.ref bt), (.ref bt)])) (fun t kt => XS.iconst X1017.here hx rfl (hb hby d2_86) kt) ?_
    obtain ⟨T1018, h1018, X1018, e1018, W1018, V1018, st1018⟩ := own_stI X1017 hx hZ e1017 V1017 (j := (16 : Int32)) ⟨by decide, by decide⟩ (g := (mkF m 87 #[.val (.int (Int32.ofNat n)), .val (.int (Int32.ofNat q)), .val (.int (Int32.ofNat k)), .unset] [(.int (1 : Int32)), (.int (16 : Int32)), (.ref bt), (.ref bt)])) rfl rfl (hb hby d2_87)
    have z1018 : n0 ≤ h1018.size := Nat.le_trans z1017 (Keep.of_wr W1018).1
    have K1018 : Keep h0 h1018 [] := K1017.wr W1018 (Or.inr o_bt)
    have N1018 := Fr.snoc X1018 N1017 g_bt
    refine go (T' := T1018) (g' := (mkF m 88 #[.val (.int (Int32.ofNat n)), .val (.int (Int32.ofNat q)), .val (.int (Int32.ofNat k)), .unset] [(.ref bt)])) st1018 ?_
    refine go (T' := T1018) (g' := (mkF m 89 #[.val (.int (Int32.ofNat n)), .val (.int (Int32.ofNat q)), .val (.int (Int32.ofNat k)), .unset] [(.ref bt), (.ref bt)])) (fun t kt => XS.dup X1018.here hx rfl (hb hby d2_88) rfl rfl kt) ?_
    refine go (T' := T1018) (g' := (mkF m 91 #[.val (.int (Int32.ofNat n)), .val (.int (Int32.ofNat q)), .val (.int (Int32.ofNat k)), .unset] [(.int (17 : Int32)), (.ref bt), (.ref bt)])) (fun t kt => XS.bipush X1018.here hx rfl (hb hby d2_89) kt) ?_
    refine go (T' := T1018) (g' := (mkF m 92 #[.val (.int (Int32.ofNat n)), .val (.int (Int32.ofNat q)), .val (.int (Int32.ofNat k)), .unset] [(.int (0 : Int32)), (.int (17 : Int32)), (.ref bt), (.ref bt)])) (fun t kt => XS.iconst X1018.here hx rfl (hb hby d2_91) kt) ?_
    obtain ⟨T1019, h1019, X1019, e1019, W1019, V1019, st1019⟩ := own_stI X1018 hx hZ e1018 V1018 (j := (17 : Int32)) ⟨by decide, by decide⟩ (g := (mkF m 92 #[.val (.int (Int32.ofNat n)), .val (.int (Int32.ofNat q)), .val (.int (Int32.ofNat k)), .unset] [(.int (0 : Int32)), (.int (17 : Int32)), (.ref bt), (.ref bt)])) rfl rfl (hb hby d2_92)
    have z1019 : n0 ≤ h1019.size := Nat.le_trans z1018 (Keep.of_wr W1019).1
    have K1019 : Keep h0 h1019 [] := K1018.wr W1019 (Or.inr o_bt)
    have N1019 := Fr.snoc X1019 N1018 g_bt
    refine go (T' := T1019) (g' := (mkF m 93 #[.val (.int (Int32.ofNat n)), .val (.int (Int32.ofNat q)), .val (.int (Int32.ofNat k)), .unset] [(.ref bt)])) st1019 ?_
    refine go (T' := T1019) (g' := (mkF m 94 #[.val (.int (Int32.ofNat n)), .val (.int (Int32.ofNat q)), .val (.int (Int32.ofNat k)), .val (.ref bt)] [])) (fun t kt => XS.astoreN X1019.here hx rfl (hb hby d2_93) rfl rfl (l' := #[.val (.int (Int32.ofNat n)), .val (.int (Int32.ofNat q)), .val (.int (Int32.ofNat k)), .val (.ref bt)]) rfl kt) ?_
    refine go (T' := T1019) (g' := (mkF m 95 #[.val (.int (Int32.ofNat n)), .val (.int (Int32.ofNat q)), .val (.int (Int32.ofNat k)), .val (.ref bt)] [(.ref bt)])) (fun t kt => XS.aloadN X1019.here hx rfl (hb hby d2_94) rfl rfl kt) ?_
    refine go (T' := T1019) (g' := (mkF m 96 #[.val (.int (Int32.ofNat n)), .val (.int (Int32.ofNat q)), .val (.int (Int32.ofNat k)), .val (.ref bt)] [(.int (Int32.ofNat q)), (.ref bt)])) (fun t kt => XS.iloadN X1019.here hx rfl (hb hby d2_95) rfl kt) ?_
    refine go (T' := T1019) (g' := (mkF m 97 #[.val (.int (Int32.ofNat n)), .val (.int (Int32.ofNat q)), .val (.int (Int32.ofNat k)), .val (.ref bt)] [(.int (3 : Int32)), (.int (Int32.ofNat q)), (.ref bt)])) (fun t kt => XS.iconst X1019.here hx rfl (hb hby d2_96) kt) ?_
    refine go (T' := T1019) (g' := (mkF m 98 #[.val (.int (Int32.ofNat n)), .val (.int (Int32.ofNat q)), .val (.int (Int32.ofNat k)), .val (.ref bt)] [(.int ((Int32.ofNat q) * (3 : Int32))), (.ref bt)])) (fun t kt => XS.imul X1019.here hx rfl (hb hby d2_97) rfl kt) ?_
    refine go (T' := T1019) (g' := (mkF m 99 #[.val (.int (Int32.ofNat n)), .val (.int (Int32.ofNat q)), .val (.int (Int32.ofNat k)), .val (.ref bt)] [(.int (Int32.ofNat k)), (.int ((Int32.ofNat q) * (3 : Int32))), (.ref bt)])) (fun t kt => XS.iloadN X1019.here hx rfl (hb hby d2_98) rfl kt) ?_
    refine go (T' := T1019) (g' := (mkF m 100 #[.val (.int (Int32.ofNat n)), .val (.int (Int32.ofNat q)), .val (.int (Int32.ofNat k)), .val (.ref bt)] [(.int (((Int32.ofNat q) * (3 : Int32)) + (Int32.ofNat k))), (.ref bt)])) (fun t kt => XS.iadd X1019.here hx rfl (hb hby d2_99) rfl kt) ?_
    refine goEq (g' := (mkF m 100 #[.val (.int (Int32.ofNat n)), .val (.int (Int32.ofNat q)), .val (.int (Int32.ofNat k)), .val (.ref bt)] [(.int (Int32.ofNat (q * 3 + k))), (.ref bt)])) (by rw [show Int32.ofNat q * (3 : Int32) = Int32.ofNat (q * 3) from nn_mul q 3, nn_add]) ?_
    have ht : ∀ i, i < 18 → (upd (upd (upd (upd (upd (upd (upd (upd (upd (upd (upd (upd (upd (upd (upd (upd (upd (upd (fun _ => defaultValue .int) ((0 : Int32)).toNatClampNeg (.int (0 : Int32))) ((1 : Int32)).toNatClampNeg (.int (1 : Int32))) ((2 : Int32)).toNatClampNeg (.int (2 : Int32))) ((3 : Int32)).toNatClampNeg (.int (0 : Int32))) ((4 : Int32)).toNatClampNeg (.int (2 : Int32))) ((5 : Int32)).toNatClampNeg (.int (1 : Int32))) ((6 : Int32)).toNatClampNeg (.int (1 : Int32))) ((7 : Int32)).toNatClampNeg (.int (0 : Int32))) ((8 : Int32)).toNatClampNeg (.int (2 : Int32))) ((9 : Int32)).toNatClampNeg (.int (1 : Int32))) ((10 : Int32)).toNatClampNeg (.int (2 : Int32))) ((11 : Int32)).toNatClampNeg (.int (0 : Int32))) ((12 : Int32)).toNatClampNeg (.int (2 : Int32))) ((13 : Int32)).toNatClampNeg (.int (0 : Int32))) ((14 : Int32)).toNatClampNeg (.int (1 : Int32))) ((15 : Int32)).toNatClampNeg (.int (2 : Int32))) ((16 : Int32)).toNatClampNeg (.int (1 : Int32))) ((17 : Int32)).toNatClampNeg (.int (0 : Int32))) i = .int (Int32.ofNat (own_tab i)) := by
      intro i hi
      have hc : i = 0 ∨ i = 1 ∨ i = 2 ∨ i = 3 ∨ i = 4 ∨ i = 5 ∨ i = 6 ∨ i = 7 ∨ i = 8 ∨ i = 9 ∨ i = 10 ∨ i = 11 ∨ i = 12 ∨ i = 13 ∨ i = 14 ∨ i = 15 ∨ i = 16 ∨ i = 17 := by omega
      rcases hc with rfl | rfl | rfl | rfl | rfl | rfl | rfl | rfl | rfl | rfl | rfl | rfl | rfl | rfl | rfl | rfl | rfl | rfl <;> rfl
    refine go (T' := T1019) (g' := (mkF m 101 #[.val (.int (Int32.ofNat n)), .val (.int (Int32.ofNat q)), .val (.int (Int32.ofNat k)), .val (.ref bt)] [(.int (Int32.ofNat (own_tab (q * 3 + k))))])) (fun t kt => own_ldI X1019 hx hZ e1019 V1019 (j := (Int32.ofNat (q * 3 + k))) ⟨nn_neg (by omega), (nn_lt (j := 18) (by omega) (by omega)).mpr (by omega)⟩ (v := (.int (Int32.ofNat (own_tab (q * 3 + k))))) (by rw [nn_nat (by omega)]; exact ht _ (by omega)) (g := (mkF m 100 #[.val (.int (Int32.ofNat n)), .val (.int (Int32.ofNat q)), .val (.int (Int32.ofNat k)), .val (.ref bt)] [(.int (Int32.ofNat (q * 3 + k))), (.ref bt)])) rfl rfl (hb hby d2_100) _ kt) ?_
    refine goRetI X1019 hx hlk Bd.returns (hb hby d2_101) ?_ (by decide) (by decide)
    rw [e1019]
    exact ⟨by rw [own_pos, if_pos k3], N1019, K1019⟩
  · refine go (T' := s₁) (g' := (mkF m 102 #[.val (.int (Int32.ofNat n)), .val (.int (Int32.ofNat q)), .val (.int (Int32.ofNat k)), .unset] [])) (fun t kt => XS.icmpYes X0.here hx rfl (pc0 := 2) (pc' := 102) rfl (hb hby d2_2) rfl (feq h3).2 (by decide) (by decide) kt) ?_
    have k3 : ¬ n = 3 := fun z => h3 (by rw [z]; rfl)
    refine go (T' := s₁) (g' := (mkF m 103 #[.val (.int (Int32.ofNat n)), .val (.int (Int32.ofNat q)), .val (.int (Int32.ofNat k)), .unset] [(.int (Int32.ofNat n))])) (fun t kt => XS.iloadN X0.here hx rfl (hb hby d2_102) rfl kt) ?_
    refine go (T' := s₁) (g' := (mkF m 104 #[.val (.int (Int32.ofNat n)), .val (.int (Int32.ofNat q)), .val (.int (Int32.ofNat k)), .unset] [(.int (2 : Int32)), (.int (Int32.ofNat n))])) (fun t kt => XS.iconst X0.here hx rfl (hb hby d2_103) kt) ?_
    by_cases h2 : (Int32.ofNat n) = (2 : Int32)
    · refine go (T' := s₁) (g' := (mkF m 107 #[.val (.int (Int32.ofNat n)), .val (.int (Int32.ofNat q)), .val (.int (Int32.ofNat k)), .unset] [])) (fun t kt => XS.icmpNo X0.here hx rfl (hb hby d2_104) rfl (teq h2).2 kt) ?_
      have k2 : n = 2 := (nn_eq (j := 2) (by omega) (by omega)).mp h2
      refine go (T' := s₁) (g' := (mkF m 108 #[.val (.int (Int32.ofNat n)), .val (.int (Int32.ofNat q)), .val (.int (Int32.ofNat k)), .unset] [(.int (Int32.ofNat q))])) (fun t kt => XS.iloadN X0.here hx rfl (hb hby d2_107) rfl kt) ?_
      refine go (T' := s₁) (g' := (mkF m 109 #[.val (.int (Int32.ofNat n)), .val (.int (Int32.ofNat q)), .val (.int (Int32.ofNat k)), .unset] [(.int (1 : Int32)), (.int (Int32.ofNat q))])) (fun t kt => XS.iconst X0.here hx rfl (hb hby d2_108) kt) ?_
      refine go (T' := s₁) (g' := (mkF m 110 #[.val (.int (Int32.ofNat n)), .val (.int (Int32.ofNat q)), .val (.int (Int32.ofNat k)), .unset] [(.int ((Int32.ofNat q) &&& (1 : Int32)))])) (fun t kt => XS.iand X0.here hx rfl (hb hby d2_109) rfl kt) ?_
      refine go (T' := s₁) (g' := (mkF m 111 #[.val (.int (Int32.ofNat n)), .val (.int (Int32.ofNat q)), .val (.int (Int32.ofNat k)), .unset] [(.int (1 : Int32)), (.int ((Int32.ofNat q) &&& (1 : Int32)))])) (fun t kt => XS.iconst X0.here hx rfl (hb hby d2_110) kt) ?_
      by_cases hp : ((Int32.ofNat q) &&& (1 : Int32)) = (1 : Int32)
      · refine go (T' := s₁) (g' := (mkF m 114 #[.val (.int (Int32.ofNat n)), .val (.int (Int32.ofNat q)), .val (.int (Int32.ofNat k)), .unset] [])) (fun t kt => XS.icmpNo X0.here hx rfl (hb hby d2_111) rfl (teq hp).2 kt) ?_
        have kp := (own_parity hq).mp hp
        refine go (T' := s₁) (g' := (mkF m 115 #[.val (.int (Int32.ofNat n)), .val (.int (Int32.ofNat q)), .val (.int (Int32.ofNat k)), .unset] [(.int (1 : Int32))])) (fun t kt => XS.iconst X0.here hx rfl (hb hby d2_114) kt) ?_
        refine go (T' := s₁) (g' := (mkF m 116 #[.val (.int (Int32.ofNat n)), .val (.int (Int32.ofNat q)), .val (.int (Int32.ofNat k)), .unset] [(.int (Int32.ofNat k)), (.int (1 : Int32))])) (fun t kt => XS.iloadN X0.here hx rfl (hb hby d2_115) rfl kt) ?_
        refine go (T' := s₁) (g' := (mkF m 117 #[.val (.int (Int32.ofNat n)), .val (.int (Int32.ofNat q)), .val (.int (Int32.ofNat k)), .unset] [(.int ((1 : Int32) - (Int32.ofNat k)))])) (fun t kt => XS.isub X0.here hx rfl (hb hby d2_116) rfl kt) ?_
        refine go (T' := s₁) (g' := (mkF m 121 #[.val (.int (Int32.ofNat n)), .val (.int (Int32.ofNat q)), .val (.int (Int32.ofNat k)), .unset] [(.int ((1 : Int32) - (Int32.ofNat k)))])) (fun t kt => XS.goto X0.here hx rfl (pc0 := 117) (pc' := 121) rfl (hb hby d2_117) (by decide) (by decide) kt) ?_
        refine goRetI X0 hx hlk Bd.returns (hb hby d2_121) ?_ (by decide) (by decide)
        rw [e0]
        exact ⟨by rw [own_pos, if_neg k3, if_pos k2, if_pos kp, show (1 : Int32) - Int32.ofNat k = Int32.ofNat (1 - k) from nn_sub (i := 1) (by omega)], N0, Keep.refl _ _⟩
      · refine go (T' := s₁) (g' := (mkF m 120 #[.val (.int (Int32.ofNat n)), .val (.int (Int32.ofNat q)), .val (.int (Int32.ofNat k)), .unset] [])) (fun t kt => XS.icmpYes X0.here hx rfl (pc0 := 111) (pc' := 120) rfl (hb hby d2_111) rfl (feq hp).2 (by decide) (by decide) kt) ?_
        have kp : ¬ q % 2 = 1 := fun z => hp ((own_parity hq).mpr z)
        refine go (T' := s₁) (g' := (mkF m 121 #[.val (.int (Int32.ofNat n)), .val (.int (Int32.ofNat q)), .val (.int (Int32.ofNat k)), .unset] [(.int (Int32.ofNat k))])) (fun t kt => XS.iloadN X0.here hx rfl (hb hby d2_120) rfl kt) ?_
        refine goRetI X0 hx hlk Bd.returns (hb hby d2_121) ?_ (by decide) (by decide)
        rw [e0]
        exact ⟨by rw [own_pos, if_neg k3, if_pos k2, if_neg kp], N0, Keep.refl _ _⟩
    · refine go (T' := s₁) (g' := (mkF m 122 #[.val (.int (Int32.ofNat n)), .val (.int (Int32.ofNat q)), .val (.int (Int32.ofNat k)), .unset] [])) (fun t kt => XS.icmpYes X0.here hx rfl (pc0 := 104) (pc' := 122) rfl (hb hby d2_104) rfl (feq h2).2 (by decide) (by decide) kt) ?_
      have k2 : ¬ n = 2 := fun z => h2 (by rw [z]; rfl)
      refine go (T' := s₁) (g' := (mkF m 123 #[.val (.int (Int32.ofNat n)), .val (.int (Int32.ofNat q)), .val (.int (Int32.ofNat k)), .unset] [(.int (Int32.ofNat k))])) (fun t kt => XS.iloadN X0.here hx rfl (hb hby d2_122) rfl kt) ?_
      refine goRetI X0 hx hlk Bd.returns (hb hby d2_123) ?_ (by decide) (by decide)
      rw [e0]
      exact ⟨by rw [own_pos, if_neg k3, if_neg k2], N0, Keep.refl _ _⟩
theorem d1_0 : decode prog_32_method_11_code 0 = .ok (.iload_n 1, 1) := by decide +kernel
theorem d1_1 : decode prog_32_method_11_code 1 = .ok (.istore 5, 2) := by decide +kernel
theorem d1_3 : decode prog_32_method_11_code 3 = .ok (.iload 5, 2) := by decide +kernel
theorem d1_5 : decode prog_32_method_11_code 5 = .ok (.iload_n 1, 1) := by decide +kernel
theorem d1_6 : decode prog_32_method_11_code 6 = .ok (.iload 4, 2) := by decide +kernel
theorem d1_8 : decode prog_32_method_11_code 8 = .ok (.iadd, 1) := by decide +kernel
theorem d1_9 : decode prog_32_method_11_code 9 = .ok (.if_icmp .ge 58, 3) := by decide +kernel
theorem d1_12 : decode prog_32_method_11_code 12 = .ok (.iconst 0, 1) := by decide +kernel
theorem d1_13 : decode prog_32_method_11_code 13 = .ok (.istore 6, 2) := by decide +kernel
theorem d1_15 : decode prog_32_method_11_code 15 = .ok (.iload_n 3, 1) := by decide +kernel
theorem d1_16 : decode prog_32_method_11_code 16 = .ok (.istore 7, 2) := by decide +kernel
theorem d1_18 : decode prog_32_method_11_code 18 = .ok (.iload 7, 2) := by decide +kernel
theorem d1_20 : decode prog_32_method_11_code 20 = .ok (.iload_n 3, 1) := by decide +kernel
theorem d1_21 : decode prog_32_method_11_code 21 = .ok (.iload 4, 2) := by decide +kernel
theorem d1_23 : decode prog_32_method_11_code 23 = .ok (.iadd, 1) := by decide +kernel
theorem d1_24 : decode prog_32_method_11_code 24 = .ok (.if_icmp .ge 30, 3) := by decide +kernel
theorem d1_27 : decode prog_32_method_11_code 27 = .ok (.iload 6, 2) := by decide +kernel
theorem d1_29 : decode prog_32_method_11_code 29 = .ok (.aload_n 0, 1) := by decide +kernel
theorem d1_30 : decode prog_32_method_11_code 30 = .ok (.iload 5, 2) := by decide +kernel
theorem d1_32 : decode prog_32_method_11_code 32 = .ok (.iaload, 1) := by decide +kernel
theorem d1_33 : decode prog_32_method_11_code 33 = .ok (.aload_n 2, 1) := by decide +kernel
theorem d1_34 : decode prog_32_method_11_code 34 = .ok (.iload 7, 2) := by decide +kernel
theorem d1_36 : decode prog_32_method_11_code 36 = .ok (.iaload, 1) := by decide +kernel
theorem d1_37 : decode prog_32_method_11_code 37 = .ok (.if_icmp .ne 7, 3) := by decide +kernel
theorem d1_40 : decode prog_32_method_11_code 40 = .ok (.iconst 1, 1) := by decide +kernel
theorem d1_41 : decode prog_32_method_11_code 41 = .ok (.goto 4, 3) := by decide +kernel
theorem d1_44 : decode prog_32_method_11_code 44 = .ok (.iconst 0, 1) := by decide +kernel
theorem d1_45 : decode prog_32_method_11_code 45 = .ok (.ior, 1) := by decide +kernel
theorem d1_46 : decode prog_32_method_11_code 46 = .ok (.istore 6, 2) := by decide +kernel
theorem d1_48 : decode prog_32_method_11_code 48 = .ok (.iinc 7 1, 3) := by decide +kernel
theorem d1_51 : decode prog_32_method_11_code 51 = .ok (.goto (-33), 3) := by decide +kernel
theorem d1_54 : decode prog_32_method_11_code 54 = .ok (.iload 6, 2) := by decide +kernel
theorem d1_56 : decode prog_32_method_11_code 56 = .ok (.ifCond .ne 5, 3) := by decide +kernel
theorem d1_59 : decode prog_32_method_11_code 59 = .ok (.iconst 0, 1) := by decide +kernel
theorem d1_60 : decode prog_32_method_11_code 60 = .ok (.ireturn, 1) := by decide +kernel
theorem d1_61 : decode prog_32_method_11_code 61 = .ok (.iinc 5 1, 3) := by decide +kernel
theorem d1_64 : decode prog_32_method_11_code 64 = .ok (.goto (-61), 3) := by decide +kernel
theorem d1_67 : decode prog_32_method_11_code 67 = .ok (.iconst 1, 1) := by decide +kernel
theorem d1_68 : decode prog_32_method_11_code 68 = .ok (.ireturn, 1) := by decide +kernel
theorem os1_13_1020 {z0 : Value} {z1 : Value} {z2 : Value} {z3 : Value} {z4 : Value} {z5 : Value} {s6 : Slot} {s7 : Slot} {v : Int32} (h : One s6) : storeLocals #[.val z0, .val z1, .val z2, .val z3, .val z4, .val z5, s6, s7] 6 (.int v) = some #[.val z0, .val z1, .val z2, .val z3, .val z4, .val z5, .val (.int v), s7] := by
  rcases h with rfl | ⟨w, rfl, hw⟩
  · rfl
  · cases w <;> first | rfl | (simp [Value.category] at hw)
theorem os1_16_1021 {z0 : Value} {z1 : Value} {z2 : Value} {z3 : Value} {z4 : Value} {z5 : Value} {z6 : Value} {s7 : Slot} {v : Int32} (h : One s7) : storeLocals #[.val z0, .val z1, .val z2, .val z3, .val z4, .val z5, .val z6, s7] 7 (.int v) = some #[.val z0, .val z1, .val z2, .val z3, .val z4, .val z5, .val z6, .val (.int v)] := by
  rcases h with rfl | ⟨w, rfl, hw⟩
  · rfl
  · cases w <;> first | rfl | (simp [Value.category] at hw)
theorem pn_1 : plainName "com/example/damarium/damarium/position/Move" = true := by first | (simp [plainName, overriddenIn]; done) | decide +kernel
theorem ef_1 (m : MethodId) (a1 : Addr) (p1 : Int32) (a2 : Addr) (p2 : Int32) (p3 : Int32) : entryFrame m #[(.ref a1), (.int p1), (.ref a2), (.int p2), (.int p3)] 8 = mkF m 0 #[.val (.ref a1), .val (.int p1), .val (.ref a2), .val (.int p2), .val (.int p3), .unset, .unset, .unset] [] := by first | (simp [entryFrame, mkF, argsToLocals, Value.category]; done) | rfl
def Q1 (Z : State) (a1 : Addr) (p1 : Int32) (a2 : Addr) (p2 : Int32) (p3 : Int32) (f : Nat → Int32) (g : Nat → Int32) (st : Nat) (os : Nat) (n : Nat) (h0 : Heap) (n0 : Nat) (v : Option Value) (h : Heap) (L : List Loc) : Prop := v = some (.int (own_b (own_same f g os n n st))) ∧ Fr n0 L ∧ h = h0
set_option maxRecDepth 65536 in
set_option maxHeartbeats 40000000 in
theorem rm1 (l : Launch) (Z : State) (a0 : Array Value) (hw : ∀ d ∈ tables_1, d.before a0 Z = true) (ws : List Jvm.Cond) (a1 : Addr) (p1 : Int32) (a2 : Addr) (p2 : Int32) (p3 : Int32) (f : Nat → Int32) (g : Nat → Int32) (st : Nat) (os : Nat) (n : Nat) (h0 : Heap) (n0 : Nat) (Z0 : n0 ≤ h0.size) (V1 : Aw Z h0 a1 .int 4 (fun i => .int (f i))) (V2 : Aw Z h0 a2 .int 4 (fun i => .int (g i))) (e1 : p1 = Int32.ofNat st) (e2 : p2 = Int32.ofNat os) (e3 : p3 = Int32.ofNat n) (hs4 : st + n ≤ 4) (ho4 : os + n ≤ 4) :
    MetFree l (⟨"com/example/damarium/damarium/position/Move", "sameSquares", "([II[III)Z"⟩ : MethodName) (head1 (Jvm.Cond.code (⟨"com/example/damarium/damarium/position/Move", "sameSquares", "([II[III)Z"⟩ : MethodName) prog_32_method_11_code 8 (some .boolean) :: ws) ({ frames := 0, cells := 0, slots := 0, locals := 0 } : Room)) (fun a U => a = #[(.ref a1), (.int p1), (.ref a2), (.int p2), (.int p3)] ∧ Z.Warmed39 U.vm ∧ U.heap = h0) (fun _ _ _ _ _ => True) (fun _ U o U' => ∃ v L, o = .returned v ∧ Q1 Z a1 p1 a2 p2 p3 f g st os n h0 n0 v U'.heap L ∧ FrameEnd U o U' L ({ frames := 0, cells := 0, slots := 0, locals := 0 } : Room).cells ({ frames := 0, cells := 0, slots := 0, locals := 0 } : Room).slots) := by
  refine MetFree.of_bodySF (plainFor_of_name pn_1) hisR ?_
  intro p e s m args below meth c s₁ Bd hml0 hP hK
  obtain ⟨rfl, hZ, hh⟩ := hP
  have hx := Bd.exec
  have hby := Bd.bytes
  have hlk := Bd.notSynchronized
  have hml : c.maxLocals = 8 := hml0
  have hown : s.vm.findClass "com/example/damarium/damarium/position/Move" = some m.cls := findClass_of_methodNamed Bd.named
  have hnm := (name_of_methodNamed Bd.named Bd.method).1
  have X0 : Stand p l e ({ frames := 0, cells := 0, slots := 0, locals := 0 } : Room) s m #[(.ref a1), (.int p1), (.ref a2), (.int p2), (.int p3)] below meth c s₁ [] 0 0 := Stand.of_body Bd
  have e0 : s₁.heap = h0 := by rw [← hh, Bd.state]; rfl
  have N0 := Fr.nil n0
  show Goes p e below s 0 0 (Q1 Z a1 p1 a2 p2 p3 f g st os n h0 n0) s₁ (entryFrame m #[(.ref a1), (.int p1), (.ref a2), (.int p2), (.int p3)] 8)
  refine goEq (ef_1 m a1 p1 a2 p2 p3) ?_
  refine goEq (g' := (mkF m 0 #[.val (.ref a1), .val (.int (Int32.ofNat st)), .val (.ref a2), .val (.int p2), .val (.int p3), .unset, .unset, .unset] [])) (by rw [e1]) ?_
  refine goEq (g' := (mkF m 0 #[.val (.ref a1), .val (.int (Int32.ofNat st)), .val (.ref a2), .val (.int (Int32.ofNat os)), .val (.int p3), .unset, .unset, .unset] [])) (by rw [e2]) ?_
  refine goEq (g' := (mkF m 0 #[.val (.ref a1), .val (.int (Int32.ofNat st)), .val (.ref a2), .val (.int (Int32.ofNat os)), .val (.int (Int32.ofNat n)), .unset, .unset, .unset] [])) (by rw [e3]) ?_
  refine go (T' := s₁) (g' := (mkF m 1 #[.val (.ref a1), .val (.int (Int32.ofNat st)), .val (.ref a2), .val (.int (Int32.ofNat os)), .val (.int (Int32.ofNat n)), .unset, .unset, .unset] [(.int (Int32.ofNat st))])) (fun t kt => XS.iloadN X0.here hx rfl (hb hby d1_0) rfl kt) ?_
  refine go (T' := s₁) (g' := (mkF m 3 #[.val (.ref a1), .val (.int (Int32.ofNat st)), .val (.ref a2), .val (.int (Int32.ofNat os)), .val (.int (Int32.ofNat n)), .val (.int (Int32.ofNat st)), .unset, .unset] [])) (fun t kt => XS.istore X0.here hx rfl (hb hby d1_1) rfl (l' := #[.val (.ref a1), .val (.int (Int32.ofNat st)), .val (.ref a2), .val (.int (Int32.ofNat os)), .val (.int (Int32.ofNat n)), .val (.int (Int32.ofNat st)), .unset, .unset]) rfl kt) ?_
  have loop : ∀ (k i : Nat) (s6 s7 : Slot), One s6 → One s7 → i + k = st + n → own_same f g os n k i = own_same f g os n n st → Goes p e below s 0 0 (Q1 Z a1 p1 a2 p2 p3 f g st os n h0 n0) s₁ (mkF m 3 #[.val (.ref a1), .val (.int (Int32.ofNat st)), .val (.ref a2), .val (.int (Int32.ofNat os)), .val (.int (Int32.ofNat n)), .val (.int (Int32.ofNat i)), s6, s7] []) := by
    intro k
    induction k with
    | zero =>
      intro i s6 s7 hs6 hs7 hik hf
      simp only [own_same] at hf
      refine go (T' := s₁) (g' := (mkF m 5 #[.val (.ref a1), .val (.int (Int32.ofNat st)), .val (.ref a2), .val (.int (Int32.ofNat os)), .val (.int (Int32.ofNat n)), .val (.int (Int32.ofNat i)), s6, s7] [(.int (Int32.ofNat i))])) (fun t kt => XS.iload X0.here hx rfl (hb hby d1_3) rfl kt) ?_
      refine go (T' := s₁) (g' := (mkF m 6 #[.val (.ref a1), .val (.int (Int32.ofNat st)), .val (.ref a2), .val (.int (Int32.ofNat os)), .val (.int (Int32.ofNat n)), .val (.int (Int32.ofNat i)), s6, s7] [(.int (Int32.ofNat st)), (.int (Int32.ofNat i))])) (fun t kt => XS.iloadN X0.here hx rfl (hb hby d1_5) rfl kt) ?_
      refine go (T' := s₁) (g' := (mkF m 8 #[.val (.ref a1), .val (.int (Int32.ofNat st)), .val (.ref a2), .val (.int (Int32.ofNat os)), .val (.int (Int32.ofNat n)), .val (.int (Int32.ofNat i)), s6, s7] [(.int (Int32.ofNat n)), (.int (Int32.ofNat st)), (.int (Int32.ofNat i))])) (fun t kt => XS.iload X0.here hx rfl (hb hby d1_6) rfl kt) ?_
      refine go (T' := s₁) (g' := (mkF m 9 #[.val (.ref a1), .val (.int (Int32.ofNat st)), .val (.ref a2), .val (.int (Int32.ofNat os)), .val (.int (Int32.ofNat n)), .val (.int (Int32.ofNat i)), s6, s7] [(.int ((Int32.ofNat st) + (Int32.ofNat n))), (.int (Int32.ofNat i))])) (fun t kt => XS.iadd X0.here hx rfl (hb hby d1_8) rfl kt) ?_
      refine goEq (g' := (mkF m 9 #[.val (.ref a1), .val (.int (Int32.ofNat st)), .val (.ref a2), .val (.int (Int32.ofNat os)), .val (.int (Int32.ofNat n)), .val (.int (Int32.ofNat i)), s6, s7] [(.int (Int32.ofNat (st + n))), (.int (Int32.ofNat i))])) (by rw [nn_add]) ?_
      refine go (T' := s₁) (g' := (mkF m 67 #[.val (.ref a1), .val (.int (Int32.ofNat st)), .val (.ref a2), .val (.int (Int32.ofNat os)), .val (.int (Int32.ofNat n)), .val (.int (Int32.ofNat i)), s6, s7] [])) (fun t kt => XS.icmpYes X0.here hx rfl (pc0 := 9) (pc' := 67) rfl (hb hby d1_9) rfl (flt (fun z => by have := (nn_lt (by omega) (by omega)).mp z; omega)).2.1 (by decide) (by decide) kt) ?_
      refine go (T' := s₁) (g' := (mkF m 68 #[.val (.ref a1), .val (.int (Int32.ofNat st)), .val (.ref a2), .val (.int (Int32.ofNat os)), .val (.int (Int32.ofNat n)), .val (.int (Int32.ofNat i)), s6, s7] [(.int (1 : Int32))])) (fun t kt => XS.iconst X0.here hx rfl (hb hby d1_67) kt) ?_
      refine goRetN X0 hx hlk (t := .boolean) Bd.returns (by simp) (hb hby d1_68) ?_ (by decide) (by decide)
      rw [e0]
      exact ⟨by rw [← hf]; rfl, N0, rfl⟩
    | succ k ih =>
      intro i s6 s7 hs6 hs7 hik hf
      simp only [own_same] at hf
      refine go (T' := s₁) (g' := (mkF m 5 #[.val (.ref a1), .val (.int (Int32.ofNat st)), .val (.ref a2), .val (.int (Int32.ofNat os)), .val (.int (Int32.ofNat n)), .val (.int (Int32.ofNat i)), s6, s7] [(.int (Int32.ofNat i))])) (fun t kt => XS.iload X0.here hx rfl (hb hby d1_3) rfl kt) ?_
      refine go (T' := s₁) (g' := (mkF m 6 #[.val (.ref a1), .val (.int (Int32.ofNat st)), .val (.ref a2), .val (.int (Int32.ofNat os)), .val (.int (Int32.ofNat n)), .val (.int (Int32.ofNat i)), s6, s7] [(.int (Int32.ofNat st)), (.int (Int32.ofNat i))])) (fun t kt => XS.iloadN X0.here hx rfl (hb hby d1_5) rfl kt) ?_
      refine go (T' := s₁) (g' := (mkF m 8 #[.val (.ref a1), .val (.int (Int32.ofNat st)), .val (.ref a2), .val (.int (Int32.ofNat os)), .val (.int (Int32.ofNat n)), .val (.int (Int32.ofNat i)), s6, s7] [(.int (Int32.ofNat n)), (.int (Int32.ofNat st)), (.int (Int32.ofNat i))])) (fun t kt => XS.iload X0.here hx rfl (hb hby d1_6) rfl kt) ?_
      refine go (T' := s₁) (g' := (mkF m 9 #[.val (.ref a1), .val (.int (Int32.ofNat st)), .val (.ref a2), .val (.int (Int32.ofNat os)), .val (.int (Int32.ofNat n)), .val (.int (Int32.ofNat i)), s6, s7] [(.int ((Int32.ofNat st) + (Int32.ofNat n))), (.int (Int32.ofNat i))])) (fun t kt => XS.iadd X0.here hx rfl (hb hby d1_8) rfl kt) ?_
      refine goEq (g' := (mkF m 9 #[.val (.ref a1), .val (.int (Int32.ofNat st)), .val (.ref a2), .val (.int (Int32.ofNat os)), .val (.int (Int32.ofNat n)), .val (.int (Int32.ofNat i)), s6, s7] [(.int (Int32.ofNat (st + n))), (.int (Int32.ofNat i))])) (by rw [nn_add]) ?_
      refine go (T' := s₁) (g' := (mkF m 12 #[.val (.ref a1), .val (.int (Int32.ofNat st)), .val (.ref a2), .val (.int (Int32.ofNat os)), .val (.int (Int32.ofNat n)), .val (.int (Int32.ofNat i)), s6, s7] [])) (fun t kt => XS.icmpNo X0.here hx rfl (hb hby d1_9) rfl (tlt ((nn_lt (by omega) (by omega)).mpr (by omega))).2.1 kt) ?_
      refine go (T' := s₁) (g' := (mkF m 13 #[.val (.ref a1), .val (.int (Int32.ofNat st)), .val (.ref a2), .val (.int (Int32.ofNat os)), .val (.int (Int32.ofNat n)), .val (.int (Int32.ofNat i)), s6, s7] [(.int (0 : Int32))])) (fun t kt => XS.iconst X0.here hx rfl (hb hby d1_12) kt) ?_
      refine go (T' := s₁) (g' := (mkF m 15 #[.val (.ref a1), .val (.int (Int32.ofNat st)), .val (.ref a2), .val (.int (Int32.ofNat os)), .val (.int (Int32.ofNat n)), .val (.int (Int32.ofNat i)), .val (.int (0 : Int32)), s7] [])) (fun t kt => XS.istore X0.here hx rfl (hb hby d1_13) rfl (l' := #[.val (.ref a1), .val (.int (Int32.ofNat st)), .val (.ref a2), .val (.int (Int32.ofNat os)), .val (.int (Int32.ofNat n)), .val (.int (Int32.ofNat i)), .val (.int (0 : Int32)), s7]) (os1_13_1020 hs6) kt) ?_
      refine go (T' := s₁) (g' := (mkF m 16 #[.val (.ref a1), .val (.int (Int32.ofNat st)), .val (.ref a2), .val (.int (Int32.ofNat os)), .val (.int (Int32.ofNat n)), .val (.int (Int32.ofNat i)), .val (.int (0 : Int32)), s7] [(.int (Int32.ofNat os))])) (fun t kt => XS.iloadN X0.here hx rfl (hb hby d1_15) rfl kt) ?_
      refine go (T' := s₁) (g' := (mkF m 18 #[.val (.ref a1), .val (.int (Int32.ofNat st)), .val (.ref a2), .val (.int (Int32.ofNat os)), .val (.int (Int32.ofNat n)), .val (.int (Int32.ofNat i)), .val (.int (0 : Int32)), .val (.int (Int32.ofNat os))] [])) (fun t kt => XS.istore X0.here hx rfl (hb hby d1_16) rfl (l' := #[.val (.ref a1), .val (.int (Int32.ofNat st)), .val (.ref a2), .val (.int (Int32.ofNat os)), .val (.int (Int32.ofNat n)), .val (.int (Int32.ofNat i)), .val (.int (0 : Int32)), .val (.int (Int32.ofNat os))]) (os1_16_1021 hs7) kt) ?_
      obtain ⟨F, eF⟩ : ∃ F, F = own_any g (f i) n os := ⟨_, rfl⟩
      rw [← eF] at hf
      have cont : Goes p e below s 0 0 (Q1 Z a1 p1 a2 p2 p3 f g st os n h0 n0) s₁ (mkF m 54 #[.val (.ref a1), .val (.int (Int32.ofNat st)), .val (.ref a2), .val (.int (Int32.ofNat os)), .val (.int (Int32.ofNat n)), .val (.int (Int32.ofNat i)), .val (.int (own_b F)), .val (.int (Int32.ofNat (os + n)))] []) := by
        refine go (T' := s₁) (g' := (mkF m 56 #[.val (.ref a1), .val (.int (Int32.ofNat st)), .val (.ref a2), .val (.int (Int32.ofNat os)), .val (.int (Int32.ofNat n)), .val (.int (Int32.ofNat i)), .val (.int (own_b F)), .val (.int (Int32.ofNat (os + n)))] [(.int (own_b F))])) (fun t kt => XS.iload X0.here hx rfl (hb hby d1_54) rfl kt) ?_
        cases hF : F with
        | true =>
          rw [hF] at hf
          refine go (T' := s₁) (g' := (mkF m 61 #[.val (.ref a1), .val (.int (Int32.ofNat st)), .val (.ref a2), .val (.int (Int32.ofNat os)), .val (.int (Int32.ofNat n)), .val (.int (Int32.ofNat i)), .val (.int (own_b true)), .val (.int (Int32.ofNat (os + n)))] [])) (fun t kt => XS.ifYes X0.here hx rfl (pc0 := 56) (pc' := 61) rfl (hb hby d1_56) rfl ((if0 _ _).trans (feq (by decide)).2) (by decide) (by decide) kt) ?_
          refine go (T' := s₁) (g' := (mkF m 64 #[.val (.ref a1), .val (.int (Int32.ofNat st)), .val (.ref a2), .val (.int (Int32.ofNat os)), .val (.int (Int32.ofNat n)), .val (.int ((Int32.ofNat i) + (1 : Int32))), .val (.int (own_b true)), .val (.int (Int32.ofNat (os + n)))] [])) (fun t kt => XS.iinc X0.here hx rfl (hb hby d1_61) rfl (l' := #[.val (.ref a1), .val (.int (Int32.ofNat st)), .val (.ref a2), .val (.int (Int32.ofNat os)), .val (.int (Int32.ofNat n)), .val (.int ((Int32.ofNat i) + (1 : Int32))), .val (.int (own_b true)), .val (.int (Int32.ofNat (os + n)))]) rfl kt) ?_
          refine goEq (g' := (mkF m 64 #[.val (.ref a1), .val (.int (Int32.ofNat st)), .val (.ref a2), .val (.int (Int32.ofNat os)), .val (.int (Int32.ofNat n)), .val (.int (Int32.ofNat (i + 1))), .val (.int (own_b true)), .val (.int (Int32.ofNat (os + n)))] [])) (by rw [show Int32.ofNat i + (1 : Int32) = Int32.ofNat (i + 1) from nn_add i 1]) ?_
          refine go (T' := s₁) (g' := (mkF m 3 #[.val (.ref a1), .val (.int (Int32.ofNat st)), .val (.ref a2), .val (.int (Int32.ofNat os)), .val (.int (Int32.ofNat n)), .val (.int (Int32.ofNat (i + 1))), .val (.int (own_b true)), .val (.int (Int32.ofNat (os + n)))] [])) (fun t kt => XS.goto X0.here hx rfl (pc0 := 64) (pc' := 3) rfl (hb hby d1_64) (by decide) (by decide) kt) ?_
          exact ih (i + 1) _ _ (One.val rfl) (One.val rfl) (by omega) (by simpa using hf)
        | false =>
          rw [hF] at hf
          refine go (T' := s₁) (g' := (mkF m 59 #[.val (.ref a1), .val (.int (Int32.ofNat st)), .val (.ref a2), .val (.int (Int32.ofNat os)), .val (.int (Int32.ofNat n)), .val (.int (Int32.ofNat i)), .val (.int (own_b false)), .val (.int (Int32.ofNat (os + n)))] [])) (fun t kt => XS.ifNo X0.here hx rfl (hb hby d1_56) rfl ((if0 _ _).trans (teq rfl).2) kt) ?_
          refine go (T' := s₁) (g' := (mkF m 60 #[.val (.ref a1), .val (.int (Int32.ofNat st)), .val (.ref a2), .val (.int (Int32.ofNat os)), .val (.int (Int32.ofNat n)), .val (.int (Int32.ofNat i)), .val (.int (own_b false)), .val (.int (Int32.ofNat (os + n)))] [(.int (0 : Int32))])) (fun t kt => XS.iconst X0.here hx rfl (hb hby d1_59) kt) ?_
          refine goRetN X0 hx hlk (t := .boolean) Bd.returns (by simp) (hb hby d1_60) ?_ (by decide) (by decide)
          rw [e0]
          exact ⟨by rw [← hf]; rfl, N0, rfl⟩
      have inn : ∀ (k2 j : Nat) (fn : Bool), j + k2 = os + n → (fn || own_any g (f i) k2 j) = F → Goes p e below s 0 0 (Q1 Z a1 p1 a2 p2 p3 f g st os n h0 n0) s₁ (mkF m 18 #[.val (.ref a1), .val (.int (Int32.ofNat st)), .val (.ref a2), .val (.int (Int32.ofNat os)), .val (.int (Int32.ofNat n)), .val (.int (Int32.ofNat i)), .val (.int (own_b fn)), .val (.int (Int32.ofNat j))] []) := by
        intro k2
        induction k2 with
        | zero =>
          intro j fn hj hfn
          simp only [own_any, Bool.or_false] at hfn
          refine go (T' := s₁) (g' := (mkF m 20 #[.val (.ref a1), .val (.int (Int32.ofNat st)), .val (.ref a2), .val (.int (Int32.ofNat os)), .val (.int (Int32.ofNat n)), .val (.int (Int32.ofNat i)), .val (.int (own_b fn)), .val (.int (Int32.ofNat j))] [(.int (Int32.ofNat j))])) (fun t kt => XS.iload X0.here hx rfl (hb hby d1_18) rfl kt) ?_
          refine go (T' := s₁) (g' := (mkF m 21 #[.val (.ref a1), .val (.int (Int32.ofNat st)), .val (.ref a2), .val (.int (Int32.ofNat os)), .val (.int (Int32.ofNat n)), .val (.int (Int32.ofNat i)), .val (.int (own_b fn)), .val (.int (Int32.ofNat j))] [(.int (Int32.ofNat os)), (.int (Int32.ofNat j))])) (fun t kt => XS.iloadN X0.here hx rfl (hb hby d1_20) rfl kt) ?_
          refine go (T' := s₁) (g' := (mkF m 23 #[.val (.ref a1), .val (.int (Int32.ofNat st)), .val (.ref a2), .val (.int (Int32.ofNat os)), .val (.int (Int32.ofNat n)), .val (.int (Int32.ofNat i)), .val (.int (own_b fn)), .val (.int (Int32.ofNat j))] [(.int (Int32.ofNat n)), (.int (Int32.ofNat os)), (.int (Int32.ofNat j))])) (fun t kt => XS.iload X0.here hx rfl (hb hby d1_21) rfl kt) ?_
          refine go (T' := s₁) (g' := (mkF m 24 #[.val (.ref a1), .val (.int (Int32.ofNat st)), .val (.ref a2), .val (.int (Int32.ofNat os)), .val (.int (Int32.ofNat n)), .val (.int (Int32.ofNat i)), .val (.int (own_b fn)), .val (.int (Int32.ofNat j))] [(.int ((Int32.ofNat os) + (Int32.ofNat n))), (.int (Int32.ofNat j))])) (fun t kt => XS.iadd X0.here hx rfl (hb hby d1_23) rfl kt) ?_
          refine goEq (g' := (mkF m 24 #[.val (.ref a1), .val (.int (Int32.ofNat st)), .val (.ref a2), .val (.int (Int32.ofNat os)), .val (.int (Int32.ofNat n)), .val (.int (Int32.ofNat i)), .val (.int (own_b fn)), .val (.int (Int32.ofNat j))] [(.int (Int32.ofNat (os + n))), (.int (Int32.ofNat j))])) (by rw [nn_add]) ?_
          refine go (T' := s₁) (g' := (mkF m 54 #[.val (.ref a1), .val (.int (Int32.ofNat st)), .val (.ref a2), .val (.int (Int32.ofNat os)), .val (.int (Int32.ofNat n)), .val (.int (Int32.ofNat i)), .val (.int (own_b fn)), .val (.int (Int32.ofNat j))] [])) (fun t kt => XS.icmpYes X0.here hx rfl (pc0 := 24) (pc' := 54) rfl (hb hby d1_24) rfl (flt (fun z => by have := (nn_lt (by omega) (by omega)).mp z; omega)).2.1 (by decide) (by decide) kt) ?_
          exact goEq (by rw [hfn, show j = os + n by omega]) cont
        | succ k2 ih2 =>
          intro j fn hj hfn
          simp only [own_any] at hfn
          refine go (T' := s₁) (g' := (mkF m 20 #[.val (.ref a1), .val (.int (Int32.ofNat st)), .val (.ref a2), .val (.int (Int32.ofNat os)), .val (.int (Int32.ofNat n)), .val (.int (Int32.ofNat i)), .val (.int (own_b fn)), .val (.int (Int32.ofNat j))] [(.int (Int32.ofNat j))])) (fun t kt => XS.iload X0.here hx rfl (hb hby d1_18) rfl kt) ?_
          refine go (T' := s₁) (g' := (mkF m 21 #[.val (.ref a1), .val (.int (Int32.ofNat st)), .val (.ref a2), .val (.int (Int32.ofNat os)), .val (.int (Int32.ofNat n)), .val (.int (Int32.ofNat i)), .val (.int (own_b fn)), .val (.int (Int32.ofNat j))] [(.int (Int32.ofNat os)), (.int (Int32.ofNat j))])) (fun t kt => XS.iloadN X0.here hx rfl (hb hby d1_20) rfl kt) ?_
          refine go (T' := s₁) (g' := (mkF m 23 #[.val (.ref a1), .val (.int (Int32.ofNat st)), .val (.ref a2), .val (.int (Int32.ofNat os)), .val (.int (Int32.ofNat n)), .val (.int (Int32.ofNat i)), .val (.int (own_b fn)), .val (.int (Int32.ofNat j))] [(.int (Int32.ofNat n)), (.int (Int32.ofNat os)), (.int (Int32.ofNat j))])) (fun t kt => XS.iload X0.here hx rfl (hb hby d1_21) rfl kt) ?_
          refine go (T' := s₁) (g' := (mkF m 24 #[.val (.ref a1), .val (.int (Int32.ofNat st)), .val (.ref a2), .val (.int (Int32.ofNat os)), .val (.int (Int32.ofNat n)), .val (.int (Int32.ofNat i)), .val (.int (own_b fn)), .val (.int (Int32.ofNat j))] [(.int ((Int32.ofNat os) + (Int32.ofNat n))), (.int (Int32.ofNat j))])) (fun t kt => XS.iadd X0.here hx rfl (hb hby d1_23) rfl kt) ?_
          refine goEq (g' := (mkF m 24 #[.val (.ref a1), .val (.int (Int32.ofNat st)), .val (.ref a2), .val (.int (Int32.ofNat os)), .val (.int (Int32.ofNat n)), .val (.int (Int32.ofNat i)), .val (.int (own_b fn)), .val (.int (Int32.ofNat j))] [(.int (Int32.ofNat (os + n))), (.int (Int32.ofNat j))])) (by rw [nn_add]) ?_
          refine go (T' := s₁) (g' := (mkF m 27 #[.val (.ref a1), .val (.int (Int32.ofNat st)), .val (.ref a2), .val (.int (Int32.ofNat os)), .val (.int (Int32.ofNat n)), .val (.int (Int32.ofNat i)), .val (.int (own_b fn)), .val (.int (Int32.ofNat j))] [])) (fun t kt => XS.icmpNo X0.here hx rfl (hb hby d1_24) rfl (tlt ((nn_lt (by omega) (by omega)).mpr (by omega))).2.1 kt) ?_
          refine go (T' := s₁) (g' := (mkF m 29 #[.val (.ref a1), .val (.int (Int32.ofNat st)), .val (.ref a2), .val (.int (Int32.ofNat os)), .val (.int (Int32.ofNat n)), .val (.int (Int32.ofNat i)), .val (.int (own_b fn)), .val (.int (Int32.ofNat j))] [(.int (own_b fn))])) (fun t kt => XS.iload X0.here hx rfl (hb hby d1_27) rfl kt) ?_
          refine go (T' := s₁) (g' := (mkF m 30 #[.val (.ref a1), .val (.int (Int32.ofNat st)), .val (.ref a2), .val (.int (Int32.ofNat os)), .val (.int (Int32.ofNat n)), .val (.int (Int32.ofNat i)), .val (.int (own_b fn)), .val (.int (Int32.ofNat j))] [(.ref a1), (.int (own_b fn))])) (fun t kt => XS.aloadN X0.here hx rfl (hb hby d1_29) rfl rfl kt) ?_
          refine go (T' := s₁) (g' := (mkF m 32 #[.val (.ref a1), .val (.int (Int32.ofNat st)), .val (.ref a2), .val (.int (Int32.ofNat os)), .val (.int (Int32.ofNat n)), .val (.int (Int32.ofNat i)), .val (.int (own_b fn)), .val (.int (Int32.ofNat j))] [(.int (Int32.ofNat i)), (.ref a1), (.int (own_b fn))])) (fun t kt => XS.iload X0.here hx rfl (hb hby d1_30) rfl kt) ?_
          refine go (T' := s₁) (g' := (mkF m 33 #[.val (.ref a1), .val (.int (Int32.ofNat st)), .val (.ref a2), .val (.int (Int32.ofNat os)), .val (.int (Int32.ofNat n)), .val (.int (Int32.ofNat i)), .val (.int (own_b fn)), .val (.int (Int32.ofNat j))] [(.int (f i)), (.int (own_b fn))])) (fun t kt => own_ldI X0 hx hZ e0 V1 (j := (Int32.ofNat i)) ⟨nn_neg (by omega), (nn_lt (j := 4) (by omega) (by omega)).mpr (by omega)⟩ (v := (.int (f i))) (by show Value.int (f _) = _; rw [nn_nat (by omega)]) (g := (mkF m 32 #[.val (.ref a1), .val (.int (Int32.ofNat st)), .val (.ref a2), .val (.int (Int32.ofNat os)), .val (.int (Int32.ofNat n)), .val (.int (Int32.ofNat i)), .val (.int (own_b fn)), .val (.int (Int32.ofNat j))] [(.int (Int32.ofNat i)), (.ref a1), (.int (own_b fn))])) rfl rfl (hb hby d1_32) _ kt) ?_
          refine go (T' := s₁) (g' := (mkF m 34 #[.val (.ref a1), .val (.int (Int32.ofNat st)), .val (.ref a2), .val (.int (Int32.ofNat os)), .val (.int (Int32.ofNat n)), .val (.int (Int32.ofNat i)), .val (.int (own_b fn)), .val (.int (Int32.ofNat j))] [(.ref a2), (.int (f i)), (.int (own_b fn))])) (fun t kt => XS.aloadN X0.here hx rfl (hb hby d1_33) rfl rfl kt) ?_
          refine go (T' := s₁) (g' := (mkF m 36 #[.val (.ref a1), .val (.int (Int32.ofNat st)), .val (.ref a2), .val (.int (Int32.ofNat os)), .val (.int (Int32.ofNat n)), .val (.int (Int32.ofNat i)), .val (.int (own_b fn)), .val (.int (Int32.ofNat j))] [(.int (Int32.ofNat j)), (.ref a2), (.int (f i)), (.int (own_b fn))])) (fun t kt => XS.iload X0.here hx rfl (hb hby d1_34) rfl kt) ?_
          refine go (T' := s₁) (g' := (mkF m 37 #[.val (.ref a1), .val (.int (Int32.ofNat st)), .val (.ref a2), .val (.int (Int32.ofNat os)), .val (.int (Int32.ofNat n)), .val (.int (Int32.ofNat i)), .val (.int (own_b fn)), .val (.int (Int32.ofNat j))] [(.int (g j)), (.int (f i)), (.int (own_b fn))])) (fun t kt => own_ldI X0 hx hZ e0 V2 (j := (Int32.ofNat j)) ⟨nn_neg (by omega), (nn_lt (j := 4) (by omega) (by omega)).mpr (by omega)⟩ (v := (.int (g j))) (by show Value.int (g _) = _; rw [nn_nat (by omega)]) (g := (mkF m 36 #[.val (.ref a1), .val (.int (Int32.ofNat st)), .val (.ref a2), .val (.int (Int32.ofNat os)), .val (.int (Int32.ofNat n)), .val (.int (Int32.ofNat i)), .val (.int (own_b fn)), .val (.int (Int32.ofNat j))] [(.int (Int32.ofNat j)), (.ref a2), (.int (f i)), (.int (own_b fn))])) rfl rfl (hb hby d1_36) _ kt) ?_
          refine goVia (T₂ := s₁) (g₂ := (mkF m 45 #[.val (.ref a1), .val (.int (Int32.ofNat st)), .val (.ref a2), .val (.int (Int32.ofNat os)), .val (.int (Int32.ofNat n)), .val (.int (Int32.ofNat i)), .val (.int (own_b fn)), .val (.int (Int32.ofNat j))] [(.int (own_b (decide (f i = g j)))), (.int (own_b fn))])) (fun kV => ?_) ?_
          · by_cases hfg : (f i) = (g j)
            · refine go (T' := s₁) (g' := (mkF m 40 #[.val (.ref a1), .val (.int (Int32.ofNat st)), .val (.ref a2), .val (.int (Int32.ofNat os)), .val (.int (Int32.ofNat n)), .val (.int (Int32.ofNat i)), .val (.int (own_b fn)), .val (.int (Int32.ofNat j))] [(.int (own_b fn))])) (fun t kt => XS.icmpNo X0.here hx rfl (hb hby d1_37) rfl (teq hfg).2 kt) ?_
              refine go (T' := s₁) (g' := (mkF m 41 #[.val (.ref a1), .val (.int (Int32.ofNat st)), .val (.ref a2), .val (.int (Int32.ofNat os)), .val (.int (Int32.ofNat n)), .val (.int (Int32.ofNat i)), .val (.int (own_b fn)), .val (.int (Int32.ofNat j))] [(.int (1 : Int32)), (.int (own_b fn))])) (fun t kt => XS.iconst X0.here hx rfl (hb hby d1_40) kt) ?_
              refine go (T' := s₁) (g' := (mkF m 45 #[.val (.ref a1), .val (.int (Int32.ofNat st)), .val (.ref a2), .val (.int (Int32.ofNat os)), .val (.int (Int32.ofNat n)), .val (.int (Int32.ofNat i)), .val (.int (own_b fn)), .val (.int (Int32.ofNat j))] [(.int (1 : Int32)), (.int (own_b fn))])) (fun t kt => XS.goto X0.here hx rfl (pc0 := 41) (pc' := 45) rfl (hb hby d1_41) (by decide) (by decide) kt) ?_
              exact goEq (by rw [own_bt (decide_eq_true hfg)]) kV
            · refine go (T' := s₁) (g' := (mkF m 44 #[.val (.ref a1), .val (.int (Int32.ofNat st)), .val (.ref a2), .val (.int (Int32.ofNat os)), .val (.int (Int32.ofNat n)), .val (.int (Int32.ofNat i)), .val (.int (own_b fn)), .val (.int (Int32.ofNat j))] [(.int (own_b fn))])) (fun t kt => XS.icmpYes X0.here hx rfl (pc0 := 37) (pc' := 44) rfl (hb hby d1_37) rfl (feq hfg).2 (by decide) (by decide) kt) ?_
              refine go (T' := s₁) (g' := (mkF m 45 #[.val (.ref a1), .val (.int (Int32.ofNat st)), .val (.ref a2), .val (.int (Int32.ofNat os)), .val (.int (Int32.ofNat n)), .val (.int (Int32.ofNat i)), .val (.int (own_b fn)), .val (.int (Int32.ofNat j))] [(.int (0 : Int32)), (.int (own_b fn))])) (fun t kt => XS.iconst X0.here hx rfl (hb hby d1_44) kt) ?_
              exact goEq (by rw [own_bf (decide_eq_false hfg)]) kV
          · refine go (T' := s₁) (g' := (mkF m 46 #[.val (.ref a1), .val (.int (Int32.ofNat st)), .val (.ref a2), .val (.int (Int32.ofNat os)), .val (.int (Int32.ofNat n)), .val (.int (Int32.ofNat i)), .val (.int (own_b fn)), .val (.int (Int32.ofNat j))] [(.int ((own_b fn) ||| (own_b (decide (f i = g j)))))])) (fun t kt => XS.ior X0.here hx rfl (hb hby d1_45) rfl kt) ?_
            refine goEq (g' := (mkF m 46 #[.val (.ref a1), .val (.int (Int32.ofNat st)), .val (.ref a2), .val (.int (Int32.ofNat os)), .val (.int (Int32.ofNat n)), .val (.int (Int32.ofNat i)), .val (.int (own_b fn)), .val (.int (Int32.ofNat j))] [(.int (own_b (fn || decide (f i = g j))))])) (by rw [own_bor]) ?_
            refine go (T' := s₁) (g' := (mkF m 48 #[.val (.ref a1), .val (.int (Int32.ofNat st)), .val (.ref a2), .val (.int (Int32.ofNat os)), .val (.int (Int32.ofNat n)), .val (.int (Int32.ofNat i)), .val (.int (own_b (fn || decide (f i = g j)))), .val (.int (Int32.ofNat j))] [])) (fun t kt => XS.istore X0.here hx rfl (hb hby d1_46) rfl (l' := #[.val (.ref a1), .val (.int (Int32.ofNat st)), .val (.ref a2), .val (.int (Int32.ofNat os)), .val (.int (Int32.ofNat n)), .val (.int (Int32.ofNat i)), .val (.int (own_b (fn || decide (f i = g j)))), .val (.int (Int32.ofNat j))]) rfl kt) ?_
            refine go (T' := s₁) (g' := (mkF m 51 #[.val (.ref a1), .val (.int (Int32.ofNat st)), .val (.ref a2), .val (.int (Int32.ofNat os)), .val (.int (Int32.ofNat n)), .val (.int (Int32.ofNat i)), .val (.int (own_b (fn || decide (f i = g j)))), .val (.int ((Int32.ofNat j) + (1 : Int32)))] [])) (fun t kt => XS.iinc X0.here hx rfl (hb hby d1_48) rfl (l' := #[.val (.ref a1), .val (.int (Int32.ofNat st)), .val (.ref a2), .val (.int (Int32.ofNat os)), .val (.int (Int32.ofNat n)), .val (.int (Int32.ofNat i)), .val (.int (own_b (fn || decide (f i = g j)))), .val (.int ((Int32.ofNat j) + (1 : Int32)))]) rfl kt) ?_
            refine goEq (g' := (mkF m 51 #[.val (.ref a1), .val (.int (Int32.ofNat st)), .val (.ref a2), .val (.int (Int32.ofNat os)), .val (.int (Int32.ofNat n)), .val (.int (Int32.ofNat i)), .val (.int (own_b (fn || decide (f i = g j)))), .val (.int (Int32.ofNat (j + 1)))] [])) (by rw [show Int32.ofNat j + (1 : Int32) = Int32.ofNat (j + 1) from nn_add j 1]) ?_
            refine go (T' := s₁) (g' := (mkF m 18 #[.val (.ref a1), .val (.int (Int32.ofNat st)), .val (.ref a2), .val (.int (Int32.ofNat os)), .val (.int (Int32.ofNat n)), .val (.int (Int32.ofNat i)), .val (.int (own_b (fn || decide (f i = g j)))), .val (.int (Int32.ofNat (j + 1)))] [])) (fun t kt => XS.goto X0.here hx rfl (pc0 := 51) (pc' := 18) rfl (hb hby d1_51) (by decide) (by decide) kt) ?_
            exact ih2 (j + 1) (fn || decide (f i = g j)) (by omega) (by rw [Bool.or_assoc]; exact hfn)
      exact inn n os false rfl (by rw [eF]; rfl)
  exact loop n st _ _ One.u One.u rfl rfl
theorem pd_0 : parseMethodDescriptor "(III)I" = some ⟨[.int, .int, .int], some .int⟩ := by decide +kernel
theorem pd_1 : parseMethodDescriptor "([II[III)Z" = some ⟨[(.array .int), .int, (.array .int), .int, .int], some .boolean⟩ := by decide +kernel
theorem ef_0 (m : MethodId) (p1 : Int32) (p2 : Int32) (p3 : Int32) (p4 : Int32) (p5 : Int32) : entryFrame m #[(.int p1), (.int p2), (.int p3), (.int p4), (.int p5)] maxLocals = mkF m 0 #[.val (.int p1), .val (.int p2), .val (.int p3), .val (.int p4), .val (.int p5), .unset, .unset, .unset, .unset, .unset, .unset, .unset, .unset, .unset, .unset] [] := by first | (simp [entryFrame, mkF, argsToLocals, Value.category, maxLocals]; done) | rfl
def Q0 (Z : State) (p1 : Int32) (p2 : Int32) (p3 : Int32) (p4 : Int32) (p5 : Int32) (h0 : Heap) (n0 : Nat) (v : Option Value) (h : Heap) (L : List Loc) : Prop := v = some (.int 1) ∧ Fr n0 L
set_option maxRecDepth 65536 in
set_option maxHeartbeats 40000000 in
theorem rm0 (l : Launch) (Z : State) (a0 : Array Value) (hw : ∀ d ∈ tables_1, d.before a0 Z = true) (ws : List Jvm.Cond) (p1 : Int32) (p2 : Int32) (p3 : Int32) (p4 : Int32) (p5 : Int32) (h0 : Heap) (n0 : Nat) (Z0 : n0 ≤ h0.size)  :
    MetFree l x (head1 (Jvm.Cond.code x code maxLocals ret :: ws) room_1) (fun a U => a = #[(.int p1), (.int p2), (.int p3), (.int p4), (.int p5)] ∧ Z.Warmed39 U.vm ∧ U.heap = h0) (fun _ _ _ _ _ => True) (fun _ U o U' => ∃ v L, o = .returned v ∧ Q0 Z p1 p2 p3 p4 p5 h0 n0 v U'.heap L ∧ FrameEnd U o U' L 7 83) := by
  refine MetFree.of_bodySF (plainFor_of_name pn_2) hisR ?_
  intro p e s m args below meth c s₁ Bd hml0 hP hK
  obtain ⟨rfl, hZ, hh⟩ := hP
  have hx := Bd.exec
  have hby := Bd.bytes
  have hlk := Bd.notSynchronized
  have hml : c.maxLocals = 15 := hml0
  have hown : s.vm.findClass "com/example/damarium/damarium/position/MoveSameSquaresPinLaw" = some m.cls := findClass_of_methodNamed Bd.named
  have hnm := (name_of_methodNamed Bd.named Bd.method).1
  have X0 : Stand p l e room_1 s m #[(.int p1), (.int p2), (.int p3), (.int p4), (.int p5)] below meth c s₁ [] 0 0 := Stand.of_body Bd
  have e0 : s₁.heap = h0 := by rw [← hh, Bd.state]; rfl
  have N0 := Fr.nil n0
  show Goes p e below s 7 83 (Q0 Z p1 p2 p3 p4 p5 h0 n0) s₁ (entryFrame m #[(.int p1), (.int p2), (.int p3), (.int p4), (.int p5)] maxLocals)
  refine goEq (ef_0 m p1 p2 p3 p4 p5) ?_
  refine go (T' := s₁) (g' := (mkF m 1 #[.val (.int p1), .val (.int p2), .val (.int p3), .val (.int p4), .val (.int p5), .unset, .unset, .unset, .unset, .unset, .unset, .unset, .unset, .unset, .unset] [(.int p1)])) (fun t kt => XS.iloadN X0.here hx rfl (hb hby at_0) rfl kt) ?_
  refine go (T' := s₁) (g' := (mkF m 2 #[.val (.int p1), .val (.int p2), .val (.int p3), .val (.int p4), .val (.int p5), .unset, .unset, .unset, .unset, .unset, .unset, .unset, .unset, .unset, .unset] [(.int p2), (.int p1)])) (fun t kt => XS.iloadN X0.here hx rfl (hb hby at_1) rfl kt) ?_
  by_cases k0 : p1 = p2
  · refine go (T' := s₁) (g' := (mkF m 30 #[.val (.int p1), .val (.int p2), .val (.int p3), .val (.int p4), .val (.int p5), .unset, .unset, .unset, .unset, .unset, .unset, .unset, .unset, .unset, .unset] [])) (fun t kt => XS.icmpYes X0.here hx rfl (pc0 := 2) (pc' := 30) rfl (hb hby at_2) rfl (teq k0).1 (by decide) (by decide) kt) ?_
    refine go (T' := s₁) (g' := (mkF m 31 #[.val (.int p1), .val (.int p2), .val (.int p3), .val (.int p4), .val (.int p5), .unset, .unset, .unset, .unset, .unset, .unset, .unset, .unset, .unset, .unset] [(.int (1 : Int32))])) (fun t kt => XS.iconst X0.here hx rfl (hb hby at_30) kt) ?_
    refine goRetN X0 hx hlk (t := .boolean) Bd.returns (by simp) (hb hby at_31) ?_ (by decide) (by decide)
    rw [e0]
    exact ⟨rfl, N0⟩
  · refine go (T' := s₁) (g' := (mkF m 5 #[.val (.int p1), .val (.int p2), .val (.int p3), .val (.int p4), .val (.int p5), .unset, .unset, .unset, .unset, .unset, .unset, .unset, .unset, .unset, .unset] [])) (fun t kt => XS.icmpNo X0.here hx rfl (hb hby at_2) rfl (feq k0).1 kt) ?_
    refine go (T' := s₁) (g' := (mkF m 6 #[.val (.int p1), .val (.int p2), .val (.int p3), .val (.int p4), .val (.int p5), .unset, .unset, .unset, .unset, .unset, .unset, .unset, .unset, .unset, .unset] [(.int p1)])) (fun t kt => XS.iloadN X0.here hx rfl (hb hby at_5) rfl kt) ?_
    refine go (T' := s₁) (g' := (mkF m 7 #[.val (.int p1), .val (.int p2), .val (.int p3), .val (.int p4), .val (.int p5), .unset, .unset, .unset, .unset, .unset, .unset, .unset, .unset, .unset, .unset] [(.int p3), (.int p1)])) (fun t kt => XS.iloadN X0.here hx rfl (hb hby at_6) rfl kt) ?_
    by_cases k1 : p1 = p3
    · refine go (T' := s₁) (g' := (mkF m 30 #[.val (.int p1), .val (.int p2), .val (.int p3), .val (.int p4), .val (.int p5), .unset, .unset, .unset, .unset, .unset, .unset, .unset, .unset, .unset, .unset] [])) (fun t kt => XS.icmpYes X0.here hx rfl (pc0 := 7) (pc' := 30) rfl (hb hby at_7) rfl (teq k1).1 (by decide) (by decide) kt) ?_
      refine go (T' := s₁) (g' := (mkF m 31 #[.val (.int p1), .val (.int p2), .val (.int p3), .val (.int p4), .val (.int p5), .unset, .unset, .unset, .unset, .unset, .unset, .unset, .unset, .unset, .unset] [(.int (1 : Int32))])) (fun t kt => XS.iconst X0.here hx rfl (hb hby at_30) kt) ?_
      refine goRetN X0 hx hlk (t := .boolean) Bd.returns (by simp) (hb hby at_31) ?_ (by decide) (by decide)
      rw [e0]
      exact ⟨rfl, N0⟩
    · refine go (T' := s₁) (g' := (mkF m 10 #[.val (.int p1), .val (.int p2), .val (.int p3), .val (.int p4), .val (.int p5), .unset, .unset, .unset, .unset, .unset, .unset, .unset, .unset, .unset, .unset] [])) (fun t kt => XS.icmpNo X0.here hx rfl (hb hby at_7) rfl (feq k1).1 kt) ?_
      refine go (T' := s₁) (g' := (mkF m 11 #[.val (.int p1), .val (.int p2), .val (.int p3), .val (.int p4), .val (.int p5), .unset, .unset, .unset, .unset, .unset, .unset, .unset, .unset, .unset, .unset] [(.int p2)])) (fun t kt => XS.iloadN X0.here hx rfl (hb hby at_10) rfl kt) ?_
      refine go (T' := s₁) (g' := (mkF m 12 #[.val (.int p1), .val (.int p2), .val (.int p3), .val (.int p4), .val (.int p5), .unset, .unset, .unset, .unset, .unset, .unset, .unset, .unset, .unset, .unset] [(.int p3), (.int p2)])) (fun t kt => XS.iloadN X0.here hx rfl (hb hby at_11) rfl kt) ?_
      by_cases k2 : p2 = p3
      · refine go (T' := s₁) (g' := (mkF m 30 #[.val (.int p1), .val (.int p2), .val (.int p3), .val (.int p4), .val (.int p5), .unset, .unset, .unset, .unset, .unset, .unset, .unset, .unset, .unset, .unset] [])) (fun t kt => XS.icmpYes X0.here hx rfl (pc0 := 12) (pc' := 30) rfl (hb hby at_12) rfl (teq k2).1 (by decide) (by decide) kt) ?_
        refine go (T' := s₁) (g' := (mkF m 31 #[.val (.int p1), .val (.int p2), .val (.int p3), .val (.int p4), .val (.int p5), .unset, .unset, .unset, .unset, .unset, .unset, .unset, .unset, .unset, .unset] [(.int (1 : Int32))])) (fun t kt => XS.iconst X0.here hx rfl (hb hby at_30) kt) ?_
        refine goRetN X0 hx hlk (t := .boolean) Bd.returns (by simp) (hb hby at_31) ?_ (by decide) (by decide)
        rw [e0]
        exact ⟨rfl, N0⟩
      · refine go (T' := s₁) (g' := (mkF m 15 #[.val (.int p1), .val (.int p2), .val (.int p3), .val (.int p4), .val (.int p5), .unset, .unset, .unset, .unset, .unset, .unset, .unset, .unset, .unset, .unset] [])) (fun t kt => XS.icmpNo X0.here hx rfl (hb hby at_12) rfl (feq k2).1 kt) ?_
        refine go (T' := s₁) (g' := (mkF m 16 #[.val (.int p1), .val (.int p2), .val (.int p3), .val (.int p4), .val (.int p5), .unset, .unset, .unset, .unset, .unset, .unset, .unset, .unset, .unset, .unset] [(.int p4)])) (fun t kt => XS.iloadN X0.here hx rfl (hb hby at_15) rfl kt) ?_
        refine go (T' := s₁) (g' := (mkF m 17 #[.val (.int p1), .val (.int p2), .val (.int p3), .val (.int p4), .val (.int p5), .unset, .unset, .unset, .unset, .unset, .unset, .unset, .unset, .unset, .unset] [(.int p1), (.int p4)])) (fun t kt => XS.iloadN X0.here hx rfl (hb hby at_16) rfl kt) ?_
        by_cases k3 : p4 = p1
        · refine go (T' := s₁) (g' := (mkF m 30 #[.val (.int p1), .val (.int p2), .val (.int p3), .val (.int p4), .val (.int p5), .unset, .unset, .unset, .unset, .unset, .unset, .unset, .unset, .unset, .unset] [])) (fun t kt => XS.icmpYes X0.here hx rfl (pc0 := 17) (pc' := 30) rfl (hb hby at_17) rfl (teq k3).1 (by decide) (by decide) kt) ?_
          refine go (T' := s₁) (g' := (mkF m 31 #[.val (.int p1), .val (.int p2), .val (.int p3), .val (.int p4), .val (.int p5), .unset, .unset, .unset, .unset, .unset, .unset, .unset, .unset, .unset, .unset] [(.int (1 : Int32))])) (fun t kt => XS.iconst X0.here hx rfl (hb hby at_30) kt) ?_
          refine goRetN X0 hx hlk (t := .boolean) Bd.returns (by simp) (hb hby at_31) ?_ (by decide) (by decide)
          rw [e0]
          exact ⟨rfl, N0⟩
        · refine go (T' := s₁) (g' := (mkF m 20 #[.val (.int p1), .val (.int p2), .val (.int p3), .val (.int p4), .val (.int p5), .unset, .unset, .unset, .unset, .unset, .unset, .unset, .unset, .unset, .unset] [])) (fun t kt => XS.icmpNo X0.here hx rfl (hb hby at_17) rfl (feq k3).1 kt) ?_
          refine go (T' := s₁) (g' := (mkF m 21 #[.val (.int p1), .val (.int p2), .val (.int p3), .val (.int p4), .val (.int p5), .unset, .unset, .unset, .unset, .unset, .unset, .unset, .unset, .unset, .unset] [(.int p4)])) (fun t kt => XS.iloadN X0.here hx rfl (hb hby at_20) rfl kt) ?_
          refine go (T' := s₁) (g' := (mkF m 22 #[.val (.int p1), .val (.int p2), .val (.int p3), .val (.int p4), .val (.int p5), .unset, .unset, .unset, .unset, .unset, .unset, .unset, .unset, .unset, .unset] [(.int p2), (.int p4)])) (fun t kt => XS.iloadN X0.here hx rfl (hb hby at_21) rfl kt) ?_
          by_cases k4 : p4 = p2
          · refine go (T' := s₁) (g' := (mkF m 30 #[.val (.int p1), .val (.int p2), .val (.int p3), .val (.int p4), .val (.int p5), .unset, .unset, .unset, .unset, .unset, .unset, .unset, .unset, .unset, .unset] [])) (fun t kt => XS.icmpYes X0.here hx rfl (pc0 := 22) (pc' := 30) rfl (hb hby at_22) rfl (teq k4).1 (by decide) (by decide) kt) ?_
            refine go (T' := s₁) (g' := (mkF m 31 #[.val (.int p1), .val (.int p2), .val (.int p3), .val (.int p4), .val (.int p5), .unset, .unset, .unset, .unset, .unset, .unset, .unset, .unset, .unset, .unset] [(.int (1 : Int32))])) (fun t kt => XS.iconst X0.here hx rfl (hb hby at_30) kt) ?_
            refine goRetN X0 hx hlk (t := .boolean) Bd.returns (by simp) (hb hby at_31) ?_ (by decide) (by decide)
            rw [e0]
            exact ⟨rfl, N0⟩
          · refine go (T' := s₁) (g' := (mkF m 25 #[.val (.int p1), .val (.int p2), .val (.int p3), .val (.int p4), .val (.int p5), .unset, .unset, .unset, .unset, .unset, .unset, .unset, .unset, .unset, .unset] [])) (fun t kt => XS.icmpNo X0.here hx rfl (hb hby at_22) rfl (feq k4).1 kt) ?_
            refine go (T' := s₁) (g' := (mkF m 26 #[.val (.int p1), .val (.int p2), .val (.int p3), .val (.int p4), .val (.int p5), .unset, .unset, .unset, .unset, .unset, .unset, .unset, .unset, .unset, .unset] [(.int p4)])) (fun t kt => XS.iloadN X0.here hx rfl (hb hby at_25) rfl kt) ?_
            refine go (T' := s₁) (g' := (mkF m 27 #[.val (.int p1), .val (.int p2), .val (.int p3), .val (.int p4), .val (.int p5), .unset, .unset, .unset, .unset, .unset, .unset, .unset, .unset, .unset, .unset] [(.int p3), (.int p4)])) (fun t kt => XS.iloadN X0.here hx rfl (hb hby at_26) rfl kt) ?_
            by_cases k5 : p4 = p3
            · refine go (T' := s₁) (g' := (mkF m 30 #[.val (.int p1), .val (.int p2), .val (.int p3), .val (.int p4), .val (.int p5), .unset, .unset, .unset, .unset, .unset, .unset, .unset, .unset, .unset, .unset] [])) (fun t kt => XS.icmpNo X0.here hx rfl (hb hby at_27) rfl (teq k5).2 kt) ?_
              refine go (T' := s₁) (g' := (mkF m 31 #[.val (.int p1), .val (.int p2), .val (.int p3), .val (.int p4), .val (.int p5), .unset, .unset, .unset, .unset, .unset, .unset, .unset, .unset, .unset, .unset] [(.int (1 : Int32))])) (fun t kt => XS.iconst X0.here hx rfl (hb hby at_30) kt) ?_
              refine goRetN X0 hx hlk (t := .boolean) Bd.returns (by simp) (hb hby at_31) ?_ (by decide) (by decide)
              rw [e0]
              exact ⟨rfl, N0⟩
            · refine go (T' := s₁) (g' := (mkF m 32 #[.val (.int p1), .val (.int p2), .val (.int p3), .val (.int p4), .val (.int p5), .unset, .unset, .unset, .unset, .unset, .unset, .unset, .unset, .unset, .unset] [])) (fun t kt => XS.icmpYes X0.here hx rfl (pc0 := 27) (pc' := 32) rfl (hb hby at_27) rfl (feq k5).2 (by decide) (by decide) kt) ?_
              refine go (T' := s₁) (g' := (mkF m 34 #[.val (.int p1), .val (.int p2), .val (.int p3), .val (.int p4), .val (.int p5), .unset, .unset, .unset, .unset, .unset, .unset, .unset, .unset, .unset, .unset] [(.int p5)])) (fun t kt => XS.iload X0.here hx rfl (hb hby at_32) rfl kt) ?_
              refine go (T' := s₁) (g' := (mkF m 35 #[.val (.int p1), .val (.int p2), .val (.int p3), .val (.int p4), .val (.int p5), .unset, .unset, .unset, .unset, .unset, .unset, .unset, .unset, .unset, .unset] [(.int (3 : Int32)), (.int p5)])) (fun t kt => XS.iconst X0.here hx rfl (hb hby at_34) kt) ?_
              refine go (T' := s₁) (g' := (mkF m 36 #[.val (.int p1), .val (.int p2), .val (.int p3), .val (.int p4), .val (.int p5), .unset, .unset, .unset, .unset, .unset, .unset, .unset, .unset, .unset, .unset] [(.int (p5 &&& (3 : Int32)))])) (fun t kt => XS.iand X0.here hx rfl (hb hby at_35) rfl kt) ?_
              obtain ⟨n, hn, en⟩ : ∃ i, i ≤ 3 ∧ p5 &&& (3 : Int32) = Int32.ofNat i := own_andk p5 (k := 3) (by decide)
              refine goEq (g' := (mkF m 36 #[.val (.int p1), .val (.int p2), .val (.int p3), .val (.int p4), .val (.int p5), .unset, .unset, .unset, .unset, .unset, .unset, .unset, .unset, .unset, .unset] [(.int (Int32.ofNat n))])) (by rw [en]) ?_
              refine go (T' := s₁) (g' := (mkF m 38 #[.val (.int p1), .val (.int p2), .val (.int p3), .val (.int p4), .val (.int p5), .val (.int (Int32.ofNat n)), .unset, .unset, .unset, .unset, .unset, .unset, .unset, .unset, .unset] [])) (fun t kt => XS.istore X0.here hx rfl (hb hby at_36) rfl (l' := #[.val (.int p1), .val (.int p2), .val (.int p3), .val (.int p4), .val (.int p5), .val (.int (Int32.ofNat n)), .unset, .unset, .unset, .unset, .unset, .unset, .unset, .unset, .unset]) rfl kt) ?_
              refine go (T' := s₁) (g' := (mkF m 40 #[.val (.int p1), .val (.int p2), .val (.int p3), .val (.int p4), .val (.int p5), .val (.int (Int32.ofNat n)), .unset, .unset, .unset, .unset, .unset, .unset, .unset, .unset, .unset] [(.int p5)])) (fun t kt => XS.iload X0.here hx rfl (hb hby at_38) rfl kt) ?_
              refine go (T' := s₁) (g' := (mkF m 41 #[.val (.int p1), .val (.int p2), .val (.int p3), .val (.int p4), .val (.int p5), .val (.int (Int32.ofNat n)), .unset, .unset, .unset, .unset, .unset, .unset, .unset, .unset, .unset] [(.int (2 : Int32)), (.int p5)])) (fun t kt => XS.iconst X0.here hx rfl (hb hby at_40) kt) ?_
              refine go (T' := s₁) (g' := (mkF m 42 #[.val (.int p1), .val (.int p2), .val (.int p3), .val (.int p4), .val (.int p5), .val (.int (Int32.ofNat n)), .unset, .unset, .unset, .unset, .unset, .unset, .unset, .unset, .unset] [(.int (p5 >>> ((2 : Int32) &&& 31)))])) (fun t kt => XS.ishr X0.here hx rfl (hb hby at_41) rfl kt) ?_
              refine go (T' := s₁) (g' := (mkF m 43 #[.val (.int p1), .val (.int p2), .val (.int p3), .val (.int p4), .val (.int p5), .val (.int (Int32.ofNat n)), .unset, .unset, .unset, .unset, .unset, .unset, .unset, .unset, .unset] [(.int (1 : Int32)), (.int (p5 >>> ((2 : Int32) &&& 31)))])) (fun t kt => XS.iconst X0.here hx rfl (hb hby at_42) kt) ?_
              refine go (T' := s₁) (g' := (mkF m 44 #[.val (.int p1), .val (.int p2), .val (.int p3), .val (.int p4), .val (.int p5), .val (.int (Int32.ofNat n)), .unset, .unset, .unset, .unset, .unset, .unset, .unset, .unset, .unset] [(.int ((p5 >>> ((2 : Int32) &&& 31)) &&& (1 : Int32)))])) (fun t kt => XS.iand X0.here hx rfl (hb hby at_43) rfl kt) ?_
              obtain ⟨st, hst, est⟩ : ∃ i, i ≤ 1 ∧ ((p5 >>> ((2 : Int32) &&& 31)) &&& (1 : Int32)) = Int32.ofNat i := own_andk _ (k := 1) (by decide)
              refine goEq (g' := (mkF m 44 #[.val (.int p1), .val (.int p2), .val (.int p3), .val (.int p4), .val (.int p5), .val (.int (Int32.ofNat n)), .unset, .unset, .unset, .unset, .unset, .unset, .unset, .unset, .unset] [(.int (Int32.ofNat st))])) (by rw [est]) ?_
              refine go (T' := s₁) (g' := (mkF m 46 #[.val (.int p1), .val (.int p2), .val (.int p3), .val (.int p4), .val (.int p5), .val (.int (Int32.ofNat n)), .val (.int (Int32.ofNat st)), .unset, .unset, .unset, .unset, .unset, .unset, .unset, .unset] [])) (fun t kt => XS.istore X0.here hx rfl (hb hby at_44) rfl (l' := #[.val (.int p1), .val (.int p2), .val (.int p3), .val (.int p4), .val (.int p5), .val (.int (Int32.ofNat n)), .val (.int (Int32.ofNat st)), .unset, .unset, .unset, .unset, .unset, .unset, .unset, .unset]) rfl kt) ?_
              refine go (T' := s₁) (g' := (mkF m 48 #[.val (.int p1), .val (.int p2), .val (.int p3), .val (.int p4), .val (.int p5), .val (.int (Int32.ofNat n)), .val (.int (Int32.ofNat st)), .unset, .unset, .unset, .unset, .unset, .unset, .unset, .unset] [(.int p5)])) (fun t kt => XS.iload X0.here hx rfl (hb hby at_46) rfl kt) ?_
              refine go (T' := s₁) (g' := (mkF m 49 #[.val (.int p1), .val (.int p2), .val (.int p3), .val (.int p4), .val (.int p5), .val (.int (Int32.ofNat n)), .val (.int (Int32.ofNat st)), .unset, .unset, .unset, .unset, .unset, .unset, .unset, .unset] [(.int (3 : Int32)), (.int p5)])) (fun t kt => XS.iconst X0.here hx rfl (hb hby at_48) kt) ?_
              refine go (T' := s₁) (g' := (mkF m 50 #[.val (.int p1), .val (.int p2), .val (.int p3), .val (.int p4), .val (.int p5), .val (.int (Int32.ofNat n)), .val (.int (Int32.ofNat st)), .unset, .unset, .unset, .unset, .unset, .unset, .unset, .unset] [(.int (p5 >>> ((3 : Int32) &&& 31)))])) (fun t kt => XS.ishr X0.here hx rfl (hb hby at_49) rfl kt) ?_
              refine go (T' := s₁) (g' := (mkF m 51 #[.val (.int p1), .val (.int p2), .val (.int p3), .val (.int p4), .val (.int p5), .val (.int (Int32.ofNat n)), .val (.int (Int32.ofNat st)), .unset, .unset, .unset, .unset, .unset, .unset, .unset, .unset] [(.int (1 : Int32)), (.int (p5 >>> ((3 : Int32) &&& 31)))])) (fun t kt => XS.iconst X0.here hx rfl (hb hby at_50) kt) ?_
              refine go (T' := s₁) (g' := (mkF m 52 #[.val (.int p1), .val (.int p2), .val (.int p3), .val (.int p4), .val (.int p5), .val (.int (Int32.ofNat n)), .val (.int (Int32.ofNat st)), .unset, .unset, .unset, .unset, .unset, .unset, .unset, .unset] [(.int ((p5 >>> ((3 : Int32) &&& 31)) &&& (1 : Int32)))])) (fun t kt => XS.iand X0.here hx rfl (hb hby at_51) rfl kt) ?_
              obtain ⟨os, hos, eos⟩ : ∃ i, i ≤ 1 ∧ ((p5 >>> ((3 : Int32) &&& 31)) &&& (1 : Int32)) = Int32.ofNat i := own_andk _ (k := 1) (by decide)
              refine goEq (g' := (mkF m 52 #[.val (.int p1), .val (.int p2), .val (.int p3), .val (.int p4), .val (.int p5), .val (.int (Int32.ofNat n)), .val (.int (Int32.ofNat st)), .unset, .unset, .unset, .unset, .unset, .unset, .unset, .unset] [(.int (Int32.ofNat os))])) (by rw [eos]) ?_
              refine go (T' := s₁) (g' := (mkF m 54 #[.val (.int p1), .val (.int p2), .val (.int p3), .val (.int p4), .val (.int p5), .val (.int (Int32.ofNat n)), .val (.int (Int32.ofNat st)), .val (.int (Int32.ofNat os)), .unset, .unset, .unset, .unset, .unset, .unset, .unset] [])) (fun t kt => XS.istore X0.here hx rfl (hb hby at_52) rfl (l' := #[.val (.int p1), .val (.int p2), .val (.int p3), .val (.int p4), .val (.int p5), .val (.int (Int32.ofNat n)), .val (.int (Int32.ofNat st)), .val (.int (Int32.ofNat os)), .unset, .unset, .unset, .unset, .unset, .unset, .unset]) rfl kt) ?_
              refine go (T' := s₁) (g' := (mkF m 56 #[.val (.int p1), .val (.int p2), .val (.int p3), .val (.int p4), .val (.int p5), .val (.int (Int32.ofNat n)), .val (.int (Int32.ofNat st)), .val (.int (Int32.ofNat os)), .unset, .unset, .unset, .unset, .unset, .unset, .unset] [(.int p5)])) (fun t kt => XS.iload X0.here hx rfl (hb hby at_54) rfl kt) ?_
              refine go (T' := s₁) (g' := (mkF m 57 #[.val (.int p1), .val (.int p2), .val (.int p3), .val (.int p4), .val (.int p5), .val (.int (Int32.ofNat n)), .val (.int (Int32.ofNat st)), .val (.int (Int32.ofNat os)), .unset, .unset, .unset, .unset, .unset, .unset, .unset] [(.int (4 : Int32)), (.int p5)])) (fun t kt => XS.iconst X0.here hx rfl (hb hby at_56) kt) ?_
              refine go (T' := s₁) (g' := (mkF m 58 #[.val (.int p1), .val (.int p2), .val (.int p3), .val (.int p4), .val (.int p5), .val (.int (Int32.ofNat n)), .val (.int (Int32.ofNat st)), .val (.int (Int32.ofNat os)), .unset, .unset, .unset, .unset, .unset, .unset, .unset] [(.int (p5 >>> ((4 : Int32) &&& 31)))])) (fun t kt => XS.ishr X0.here hx rfl (hb hby at_57) rfl kt) ?_
              refine go (T' := s₁) (g' := (mkF m 60 #[.val (.int p1), .val (.int p2), .val (.int p3), .val (.int p4), .val (.int p5), .val (.int (Int32.ofNat n)), .val (.int (Int32.ofNat st)), .val (.int (Int32.ofNat os)), .unset, .unset, .unset, .unset, .unset, .unset, .unset] [(.int (7 : Int32)), (.int (p5 >>> ((4 : Int32) &&& 31)))])) (fun t kt => XS.bipush X0.here hx rfl (hb hby at_58) kt) ?_
              refine go (T' := s₁) (g' := (mkF m 61 #[.val (.int p1), .val (.int p2), .val (.int p3), .val (.int p4), .val (.int p5), .val (.int (Int32.ofNat n)), .val (.int (Int32.ofNat st)), .val (.int (Int32.ofNat os)), .unset, .unset, .unset, .unset, .unset, .unset, .unset] [(.int ((p5 >>> ((4 : Int32) &&& 31)) &&& (7 : Int32)))])) (fun t kt => XS.iand X0.here hx rfl (hb hby at_60) rfl kt) ?_
              obtain ⟨q7, hq7, eq7⟩ : ∃ i, i ≤ 7 ∧ ((p5 >>> ((4 : Int32) &&& 31)) &&& (7 : Int32)) = Int32.ofNat i := own_andk _ (k := 7) (by decide)
              refine goEq (g' := (mkF m 61 #[.val (.int p1), .val (.int p2), .val (.int p3), .val (.int p4), .val (.int p5), .val (.int (Int32.ofNat n)), .val (.int (Int32.ofNat st)), .val (.int (Int32.ofNat os)), .unset, .unset, .unset, .unset, .unset, .unset, .unset] [(.int (Int32.ofNat q7))])) (by rw [eq7]) ?_
              refine go (T' := s₁) (g' := (mkF m 63 #[.val (.int p1), .val (.int p2), .val (.int p3), .val (.int p4), .val (.int p5), .val (.int (Int32.ofNat n)), .val (.int (Int32.ofNat st)), .val (.int (Int32.ofNat os)), .unset, .unset, .unset, .unset, .unset, .unset, .unset] [(.int (6 : Int32)), (.int (Int32.ofNat q7))])) (fun t kt => XS.bipush X0.here hx rfl (hb hby at_61) kt) ?_
              refine go (T' := s₁) (g' := (mkF m 64 #[.val (.int p1), .val (.int p2), .val (.int p3), .val (.int p4), .val (.int p5), .val (.int (Int32.ofNat n)), .val (.int (Int32.ofNat st)), .val (.int (Int32.ofNat os)), .unset, .unset, .unset, .unset, .unset, .unset, .unset] [(.int ((Int32.ofNat q7) % (6 : Int32)))])) (fun t kt => iremM X0 hx rfl (hb hby at_63) rfl (by decide) kt) ?_
              obtain ⟨q, hq, eq⟩ : ∃ i, i < 6 ∧ Int32.ofNat q7 % (6 : Int32) = Int32.ofNat i := nn_rem (by rw [nn_toInt (by omega)]; omega) (k := 6) (by decide) (by decide)
              refine goEq (g' := (mkF m 64 #[.val (.int p1), .val (.int p2), .val (.int p3), .val (.int p4), .val (.int p5), .val (.int (Int32.ofNat n)), .val (.int (Int32.ofNat st)), .val (.int (Int32.ofNat os)), .unset, .unset, .unset, .unset, .unset, .unset, .unset] [(.int (Int32.ofNat q))])) (by rw [eq]) ?_
              refine go (T' := s₁) (g' := (mkF m 66 #[.val (.int p1), .val (.int p2), .val (.int p3), .val (.int p4), .val (.int p5), .val (.int (Int32.ofNat n)), .val (.int (Int32.ofNat st)), .val (.int (Int32.ofNat os)), .val (.int (Int32.ofNat q)), .unset, .unset, .unset, .unset, .unset, .unset] [])) (fun t kt => XS.istore X0.here hx rfl (hb hby at_64) rfl (l' := #[.val (.int p1), .val (.int p2), .val (.int p3), .val (.int p4), .val (.int p5), .val (.int (Int32.ofNat n)), .val (.int (Int32.ofNat st)), .val (.int (Int32.ofNat os)), .val (.int (Int32.ofNat q)), .unset, .unset, .unset, .unset, .unset, .unset]) rfl kt) ?_
              refine go (T' := s₁) (g' := (mkF m 68 #[.val (.int p1), .val (.int p2), .val (.int p3), .val (.int p4), .val (.int p5), .val (.int (Int32.ofNat n)), .val (.int (Int32.ofNat st)), .val (.int (Int32.ofNat os)), .val (.int (Int32.ofNat q)), .unset, .unset, .unset, .unset, .unset, .unset] [(.int p5)])) (fun t kt => XS.iload X0.here hx rfl (hb hby at_66) rfl kt) ?_
              refine go (T' := s₁) (g' := (mkF m 70 #[.val (.int p1), .val (.int p2), .val (.int p3), .val (.int p4), .val (.int p5), .val (.int (Int32.ofNat n)), .val (.int (Int32.ofNat st)), .val (.int (Int32.ofNat os)), .val (.int (Int32.ofNat q)), .unset, .unset, .unset, .unset, .unset, .unset] [(.int (7 : Int32)), (.int p5)])) (fun t kt => XS.bipush X0.here hx rfl (hb hby at_68) kt) ?_
              refine go (T' := s₁) (g' := (mkF m 71 #[.val (.int p1), .val (.int p2), .val (.int p3), .val (.int p4), .val (.int p5), .val (.int (Int32.ofNat n)), .val (.int (Int32.ofNat st)), .val (.int (Int32.ofNat os)), .val (.int (Int32.ofNat q)), .unset, .unset, .unset, .unset, .unset, .unset] [(.int (p5 >>> ((7 : Int32) &&& 31)))])) (fun t kt => XS.ishr X0.here hx rfl (hb hby at_70) rfl kt) ?_
              refine go (T' := s₁) (g' := (mkF m 72 #[.val (.int p1), .val (.int p2), .val (.int p3), .val (.int p4), .val (.int p5), .val (.int (Int32.ofNat n)), .val (.int (Int32.ofNat st)), .val (.int (Int32.ofNat os)), .val (.int (Int32.ofNat q)), .unset, .unset, .unset, .unset, .unset, .unset] [(.int (3 : Int32)), (.int (p5 >>> ((7 : Int32) &&& 31)))])) (fun t kt => XS.iconst X0.here hx rfl (hb hby at_71) kt) ?_
              refine go (T' := s₁) (g' := (mkF m 73 #[.val (.int p1), .val (.int p2), .val (.int p3), .val (.int p4), .val (.int p5), .val (.int (Int32.ofNat n)), .val (.int (Int32.ofNat st)), .val (.int (Int32.ofNat os)), .val (.int (Int32.ofNat q)), .unset, .unset, .unset, .unset, .unset, .unset] [(.int ((p5 >>> ((7 : Int32) &&& 31)) &&& (3 : Int32)))])) (fun t kt => XS.iand X0.here hx rfl (hb hby at_72) rfl kt) ?_
              obtain ⟨r, hr, er⟩ : ∃ i, i ≤ 3 ∧ ((p5 >>> ((7 : Int32) &&& 31)) &&& (3 : Int32)) = Int32.ofNat i := own_andk _ (k := 3) (by decide)
              refine goEq (g' := (mkF m 73 #[.val (.int p1), .val (.int p2), .val (.int p3), .val (.int p4), .val (.int p5), .val (.int (Int32.ofNat n)), .val (.int (Int32.ofNat st)), .val (.int (Int32.ofNat os)), .val (.int (Int32.ofNat q)), .unset, .unset, .unset, .unset, .unset, .unset] [(.int (Int32.ofNat r))])) (by rw [er]) ?_
              refine go (T' := s₁) (g' := (mkF m 75 #[.val (.int p1), .val (.int p2), .val (.int p3), .val (.int p4), .val (.int p5), .val (.int (Int32.ofNat n)), .val (.int (Int32.ofNat st)), .val (.int (Int32.ofNat os)), .val (.int (Int32.ofNat q)), .val (.int (Int32.ofNat r)), .unset, .unset, .unset, .unset, .unset] [])) (fun t kt => XS.istore X0.here hx rfl (hb hby at_73) rfl (l' := #[.val (.int p1), .val (.int p2), .val (.int p3), .val (.int p4), .val (.int p5), .val (.int (Int32.ofNat n)), .val (.int (Int32.ofNat st)), .val (.int (Int32.ofNat os)), .val (.int (Int32.ofNat q)), .val (.int (Int32.ofNat r)), .unset, .unset, .unset, .unset, .unset]) rfl kt) ?_
              refine go (T' := s₁) (g' := (mkF m 76 #[.val (.int p1), .val (.int p2), .val (.int p3), .val (.int p4), .val (.int p5), .val (.int (Int32.ofNat n)), .val (.int (Int32.ofNat st)), .val (.int (Int32.ofNat os)), .val (.int (Int32.ofNat q)), .val (.int (Int32.ofNat r)), .unset, .unset, .unset, .unset, .unset] [(.int (3 : Int32))])) (fun t kt => XS.iconst X0.here hx rfl (hb hby at_75) kt) ?_
              obtain ⟨T1022, h1022, kc1022, X1022, e1022, E1022, A1022, st1022⟩ := newP X0 hx hZ (hw _ (List.mem_of_getElem? (i := 0) rfl)) e0 (g := (mkF m 76 #[.val (.int p1), .val (.int p2), .val (.int p3), .val (.int p4), .val (.int p5), .val (.int (Int32.ofNat n)), .val (.int (Int32.ofNat st)), .val (.int (Int32.ofNat os)), .val (.int (Int32.ofNat q)), .val (.int (Int32.ofNat r)), .unset, .unset, .unset, .unset, .unset] [(.int (3 : Int32))])) rfl (hb hby at_76) rfl (by decide) (cap := 3) (by decide) (by decide) (by decide) (by decide)
              obtain ⟨bv, g1022⟩ : ∃ z, z = h0.size := ⟨_, rfl⟩
              rw [← g1022] at A1022 st1022
              have g_bv : n0 ≤ bv := Nat.le_trans Z0 (Nat.le_of_eq g1022.symm)
              have z1022 : n0 ≤ h1022.size := Nat.le_trans Z0 E1022.1
              have V_bv : Aw Z h1022 bv .int (3 : Int32) (fun _ => defaultValue .int) := Aw.new A1022 (by decide)
              refine go (T' := T1022) (g' := (mkF m 78 #[.val (.int p1), .val (.int p2), .val (.int p3), .val (.int p4), .val (.int p5), .val (.int (Int32.ofNat n)), .val (.int (Int32.ofNat st)), .val (.int (Int32.ofNat os)), .val (.int (Int32.ofNat q)), .val (.int (Int32.ofNat r)), .unset, .unset, .unset, .unset, .unset] [(.ref bv)])) st1022 ?_
              refine go (T' := T1022) (g' := (mkF m 79 #[.val (.int p1), .val (.int p2), .val (.int p3), .val (.int p4), .val (.int p5), .val (.int (Int32.ofNat n)), .val (.int (Int32.ofNat st)), .val (.int (Int32.ofNat os)), .val (.int (Int32.ofNat q)), .val (.int (Int32.ofNat r)), .unset, .unset, .unset, .unset, .unset] [(.ref bv), (.ref bv)])) (fun t kt => XS.dup X1022.here hx rfl (hb hby at_78) rfl rfl kt) ?_
              refine go (T' := T1022) (g' := (mkF m 80 #[.val (.int p1), .val (.int p2), .val (.int p3), .val (.int p4), .val (.int p5), .val (.int (Int32.ofNat n)), .val (.int (Int32.ofNat st)), .val (.int (Int32.ofNat os)), .val (.int (Int32.ofNat q)), .val (.int (Int32.ofNat r)), .unset, .unset, .unset, .unset, .unset] [(.int (0 : Int32)), (.ref bv), (.ref bv)])) (fun t kt => XS.iconst X1022.here hx rfl (hb hby at_79) kt) ?_
              refine go (T' := T1022) (g' := (mkF m 81 #[.val (.int p1), .val (.int p2), .val (.int p3), .val (.int p4), .val (.int p5), .val (.int (Int32.ofNat n)), .val (.int (Int32.ofNat st)), .val (.int (Int32.ofNat os)), .val (.int (Int32.ofNat q)), .val (.int (Int32.ofNat r)), .unset, .unset, .unset, .unset, .unset] [(.int p1), (.int (0 : Int32)), (.ref bv), (.ref bv)])) (fun t kt => XS.iloadN X1022.here hx rfl (hb hby at_80) rfl kt) ?_
              obtain ⟨T1023, h1023, X1023, e1023, W1023, V1023, st1023⟩ := own_stI X1022 hx hZ e1022 V_bv (j := (0 : Int32)) ⟨by decide, by decide⟩ (g := (mkF m 81 #[.val (.int p1), .val (.int p2), .val (.int p3), .val (.int p4), .val (.int p5), .val (.int (Int32.ofNat n)), .val (.int (Int32.ofNat st)), .val (.int (Int32.ofNat os)), .val (.int (Int32.ofNat q)), .val (.int (Int32.ofNat r)), .unset, .unset, .unset, .unset, .unset] [(.int p1), (.int (0 : Int32)), (.ref bv), (.ref bv)])) rfl rfl (hb hby at_81)
              have z1023 : n0 ≤ h1023.size := Nat.le_trans z1022 (Keep.of_wr W1023).1
              have N1023 := Fr.snoc X1023 N0 g_bv
              refine go (T' := T1023) (g' := (mkF m 82 #[.val (.int p1), .val (.int p2), .val (.int p3), .val (.int p4), .val (.int p5), .val (.int (Int32.ofNat n)), .val (.int (Int32.ofNat st)), .val (.int (Int32.ofNat os)), .val (.int (Int32.ofNat q)), .val (.int (Int32.ofNat r)), .unset, .unset, .unset, .unset, .unset] [(.ref bv)])) st1023 ?_
              refine go (T' := T1023) (g' := (mkF m 83 #[.val (.int p1), .val (.int p2), .val (.int p3), .val (.int p4), .val (.int p5), .val (.int (Int32.ofNat n)), .val (.int (Int32.ofNat st)), .val (.int (Int32.ofNat os)), .val (.int (Int32.ofNat q)), .val (.int (Int32.ofNat r)), .unset, .unset, .unset, .unset, .unset] [(.ref bv), (.ref bv)])) (fun t kt => XS.dup X1023.here hx rfl (hb hby at_82) rfl rfl kt) ?_
              refine go (T' := T1023) (g' := (mkF m 84 #[.val (.int p1), .val (.int p2), .val (.int p3), .val (.int p4), .val (.int p5), .val (.int (Int32.ofNat n)), .val (.int (Int32.ofNat st)), .val (.int (Int32.ofNat os)), .val (.int (Int32.ofNat q)), .val (.int (Int32.ofNat r)), .unset, .unset, .unset, .unset, .unset] [(.int (1 : Int32)), (.ref bv), (.ref bv)])) (fun t kt => XS.iconst X1023.here hx rfl (hb hby at_83) kt) ?_
              refine go (T' := T1023) (g' := (mkF m 85 #[.val (.int p1), .val (.int p2), .val (.int p3), .val (.int p4), .val (.int p5), .val (.int (Int32.ofNat n)), .val (.int (Int32.ofNat st)), .val (.int (Int32.ofNat os)), .val (.int (Int32.ofNat q)), .val (.int (Int32.ofNat r)), .unset, .unset, .unset, .unset, .unset] [(.int p2), (.int (1 : Int32)), (.ref bv), (.ref bv)])) (fun t kt => XS.iloadN X1023.here hx rfl (hb hby at_84) rfl kt) ?_
              obtain ⟨T1024, h1024, X1024, e1024, W1024, V1024, st1024⟩ := own_stI X1023 hx hZ e1023 V1023 (j := (1 : Int32)) ⟨by decide, by decide⟩ (g := (mkF m 85 #[.val (.int p1), .val (.int p2), .val (.int p3), .val (.int p4), .val (.int p5), .val (.int (Int32.ofNat n)), .val (.int (Int32.ofNat st)), .val (.int (Int32.ofNat os)), .val (.int (Int32.ofNat q)), .val (.int (Int32.ofNat r)), .unset, .unset, .unset, .unset, .unset] [(.int p2), (.int (1 : Int32)), (.ref bv), (.ref bv)])) rfl rfl (hb hby at_85)
              have z1024 : n0 ≤ h1024.size := Nat.le_trans z1023 (Keep.of_wr W1024).1
              have N1024 := Fr.snoc X1024 N1023 g_bv
              refine go (T' := T1024) (g' := (mkF m 86 #[.val (.int p1), .val (.int p2), .val (.int p3), .val (.int p4), .val (.int p5), .val (.int (Int32.ofNat n)), .val (.int (Int32.ofNat st)), .val (.int (Int32.ofNat os)), .val (.int (Int32.ofNat q)), .val (.int (Int32.ofNat r)), .unset, .unset, .unset, .unset, .unset] [(.ref bv)])) st1024 ?_
              refine go (T' := T1024) (g' := (mkF m 87 #[.val (.int p1), .val (.int p2), .val (.int p3), .val (.int p4), .val (.int p5), .val (.int (Int32.ofNat n)), .val (.int (Int32.ofNat st)), .val (.int (Int32.ofNat os)), .val (.int (Int32.ofNat q)), .val (.int (Int32.ofNat r)), .unset, .unset, .unset, .unset, .unset] [(.ref bv), (.ref bv)])) (fun t kt => XS.dup X1024.here hx rfl (hb hby at_86) rfl rfl kt) ?_
              refine go (T' := T1024) (g' := (mkF m 88 #[.val (.int p1), .val (.int p2), .val (.int p3), .val (.int p4), .val (.int p5), .val (.int (Int32.ofNat n)), .val (.int (Int32.ofNat st)), .val (.int (Int32.ofNat os)), .val (.int (Int32.ofNat q)), .val (.int (Int32.ofNat r)), .unset, .unset, .unset, .unset, .unset] [(.int (2 : Int32)), (.ref bv), (.ref bv)])) (fun t kt => XS.iconst X1024.here hx rfl (hb hby at_87) kt) ?_
              refine go (T' := T1024) (g' := (mkF m 89 #[.val (.int p1), .val (.int p2), .val (.int p3), .val (.int p4), .val (.int p5), .val (.int (Int32.ofNat n)), .val (.int (Int32.ofNat st)), .val (.int (Int32.ofNat os)), .val (.int (Int32.ofNat q)), .val (.int (Int32.ofNat r)), .unset, .unset, .unset, .unset, .unset] [(.int p3), (.int (2 : Int32)), (.ref bv), (.ref bv)])) (fun t kt => XS.iloadN X1024.here hx rfl (hb hby at_88) rfl kt) ?_
              obtain ⟨T1025, h1025, X1025, e1025, W1025, V1025, st1025⟩ := own_stI X1024 hx hZ e1024 V1024 (j := (2 : Int32)) ⟨by decide, by decide⟩ (g := (mkF m 89 #[.val (.int p1), .val (.int p2), .val (.int p3), .val (.int p4), .val (.int p5), .val (.int (Int32.ofNat n)), .val (.int (Int32.ofNat st)), .val (.int (Int32.ofNat os)), .val (.int (Int32.ofNat q)), .val (.int (Int32.ofNat r)), .unset, .unset, .unset, .unset, .unset] [(.int p3), (.int (2 : Int32)), (.ref bv), (.ref bv)])) rfl rfl (hb hby at_89)
              have z1025 : n0 ≤ h1025.size := Nat.le_trans z1024 (Keep.of_wr W1025).1
              have N1025 := Fr.snoc X1025 N1024 g_bv
              refine go (T' := T1025) (g' := (mkF m 90 #[.val (.int p1), .val (.int p2), .val (.int p3), .val (.int p4), .val (.int p5), .val (.int (Int32.ofNat n)), .val (.int (Int32.ofNat st)), .val (.int (Int32.ofNat os)), .val (.int (Int32.ofNat q)), .val (.int (Int32.ofNat r)), .unset, .unset, .unset, .unset, .unset] [(.ref bv)])) st1025 ?_
              refine go (T' := T1025) (g' := (mkF m 92 #[.val (.int p1), .val (.int p2), .val (.int p3), .val (.int p4), .val (.int p5), .val (.int (Int32.ofNat n)), .val (.int (Int32.ofNat st)), .val (.int (Int32.ofNat os)), .val (.int (Int32.ofNat q)), .val (.int (Int32.ofNat r)), .val (.ref bv), .unset, .unset, .unset, .unset] [])) (fun t kt => XS.astore X1025.here hx rfl (hb hby at_90) rfl rfl (l' := #[.val (.int p1), .val (.int p2), .val (.int p3), .val (.int p4), .val (.int p5), .val (.int (Int32.ofNat n)), .val (.int (Int32.ofNat st)), .val (.int (Int32.ofNat os)), .val (.int (Int32.ofNat q)), .val (.int (Int32.ofNat r)), .val (.ref bv), .unset, .unset, .unset, .unset]) rfl kt) ?_
              refine go (T' := T1025) (g' := (mkF m 93 #[.val (.int p1), .val (.int p2), .val (.int p3), .val (.int p4), .val (.int p5), .val (.int (Int32.ofNat n)), .val (.int (Int32.ofNat st)), .val (.int (Int32.ofNat os)), .val (.int (Int32.ofNat q)), .val (.int (Int32.ofNat r)), .val (.ref bv), .unset, .unset, .unset, .unset] [(.int (4 : Int32))])) (fun t kt => XS.iconst X1025.here hx rfl (hb hby at_92) kt) ?_
              have Vv : Aw Z h1025 bv .int (3 : Int32) (fun i => .int (own_v p1 p2 p3 i)) := V1025.congr (fun i hi => (by have hi2 : i < 3 := hi; have hc : i = 0 ∨ i = 1 ∨ i = 2 := (by omega); rcases hc with rfl | rfl | rfl <;> rfl))
              obtain ⟨T1026, h1026, kc1026, X1026, e1026, E1026, A1026, st1026⟩ := newP X1025 hx hZ (hw _ (List.mem_of_getElem? (i := 0) rfl)) e1025 (g := (mkF m 93 #[.val (.int p1), .val (.int p2), .val (.int p3), .val (.int p4), .val (.int p5), .val (.int (Int32.ofNat n)), .val (.int (Int32.ofNat st)), .val (.int (Int32.ofNat os)), .val (.int (Int32.ofNat q)), .val (.int (Int32.ofNat r)), .val (.ref bv), .unset, .unset, .unset, .unset] [(.int (4 : Int32))])) rfl (hb hby at_93) rfl (by decide) (cap := 4) (by decide) (by decide) (by decide) (by decide)
              obtain ⟨bs, g1026⟩ : ∃ z, z = h1025.size := ⟨_, rfl⟩
              rw [← g1026] at A1026 st1026
              have ne_bv_bs : bv ≠ bs := Nat.ne_of_lt (Nat.lt_of_lt_of_le Vv.lt (Nat.le_of_eq g1026.symm))
              have g_bs : n0 ≤ bs := Nat.le_trans z1025 (Nat.le_of_eq g1026.symm)
              have z1026 : n0 ≤ h1026.size := Nat.le_trans z1025 E1026.1
              have fA_bv_1026 : Aw Z h1026 bv .int (3 : Int32) (fun i => .int (own_v p1 p2 p3 i)) := Vv.ext E1026
              have V_bs : Aw Z h1026 bs .int (4 : Int32) (fun _ => defaultValue .int) := Aw.new A1026 (by decide)
              refine go (T' := T1026) (g' := (mkF m 95 #[.val (.int p1), .val (.int p2), .val (.int p3), .val (.int p4), .val (.int p5), .val (.int (Int32.ofNat n)), .val (.int (Int32.ofNat st)), .val (.int (Int32.ofNat os)), .val (.int (Int32.ofNat q)), .val (.int (Int32.ofNat r)), .val (.ref bv), .unset, .unset, .unset, .unset] [(.ref bs)])) st1026 ?_
              refine go (T' := T1026) (g' := (mkF m 97 #[.val (.int p1), .val (.int p2), .val (.int p3), .val (.int p4), .val (.int p5), .val (.int (Int32.ofNat n)), .val (.int (Int32.ofNat st)), .val (.int (Int32.ofNat os)), .val (.int (Int32.ofNat q)), .val (.int (Int32.ofNat r)), .val (.ref bv), .val (.ref bs), .unset, .unset, .unset] [])) (fun t kt => XS.astore X1026.here hx rfl (hb hby at_95) rfl rfl (l' := #[.val (.int p1), .val (.int p2), .val (.int p3), .val (.int p4), .val (.int p5), .val (.int (Int32.ofNat n)), .val (.int (Int32.ofNat st)), .val (.int (Int32.ofNat os)), .val (.int (Int32.ofNat q)), .val (.int (Int32.ofNat r)), .val (.ref bv), .val (.ref bs), .unset, .unset, .unset]) rfl kt) ?_
              refine go (T' := T1026) (g' := (mkF m 99 #[.val (.int p1), .val (.int p2), .val (.int p3), .val (.int p4), .val (.int p5), .val (.int (Int32.ofNat n)), .val (.int (Int32.ofNat st)), .val (.int (Int32.ofNat os)), .val (.int (Int32.ofNat q)), .val (.int (Int32.ofNat r)), .val (.ref bv), .val (.ref bs), .unset, .unset, .unset] [(.ref bs)])) (fun t kt => XS.aload X1026.here hx rfl (hb hby at_97) rfl rfl kt) ?_
              refine go (T' := T1026) (g' := (mkF m 101 #[.val (.int p1), .val (.int p2), .val (.int p3), .val (.int p4), .val (.int p5), .val (.int (Int32.ofNat n)), .val (.int (Int32.ofNat st)), .val (.int (Int32.ofNat os)), .val (.int (Int32.ofNat q)), .val (.int (Int32.ofNat r)), .val (.ref bv), .val (.ref bs), .unset, .unset, .unset] [(.int (Int32.ofNat st)), (.ref bs)])) (fun t kt => XS.iload X1026.here hx rfl (hb hby at_99) rfl kt) ?_
              refine go (T' := T1026) (g' := (mkF m 102 #[.val (.int p1), .val (.int p2), .val (.int p3), .val (.int p4), .val (.int p5), .val (.int (Int32.ofNat n)), .val (.int (Int32.ofNat st)), .val (.int (Int32.ofNat os)), .val (.int (Int32.ofNat q)), .val (.int (Int32.ofNat r)), .val (.ref bv), .val (.ref bs), .unset, .unset, .unset] [(.int p1), (.int (Int32.ofNat st)), (.ref bs)])) (fun t kt => XS.iloadN X1026.here hx rfl (hb hby at_101) rfl kt) ?_
              obtain ⟨T1027, h1027, X1027, e1027, W1027, V1027, st1027⟩ := own_stI X1026 hx hZ e1026 V_bs (j := (Int32.ofNat st)) ⟨nn_neg (by omega), (nn_lt (j := 4) (by omega) (by omega)).mpr (by omega)⟩ (g := (mkF m 102 #[.val (.int p1), .val (.int p2), .val (.int p3), .val (.int p4), .val (.int p5), .val (.int (Int32.ofNat n)), .val (.int (Int32.ofNat st)), .val (.int (Int32.ofNat os)), .val (.int (Int32.ofNat q)), .val (.int (Int32.ofNat r)), .val (.ref bv), .val (.ref bs), .unset, .unset, .unset] [(.int p1), (.int (Int32.ofNat st)), (.ref bs)])) rfl rfl (hb hby at_102)
              have z1027 : n0 ≤ h1027.size := Nat.le_trans z1026 (Keep.of_wr W1027).1
              have fA_bv_1027 : Aw Z h1027 bv .int (3 : Int32) (fun i => .int (own_v p1 p2 p3 i)) := fA_bv_1026.other W1027 ne_bv_bs
              have N1027 := Fr.snoc X1027 N1025 g_bs
              refine go (T' := T1027) (g' := (mkF m 103 #[.val (.int p1), .val (.int p2), .val (.int p3), .val (.int p4), .val (.int p5), .val (.int (Int32.ofNat n)), .val (.int (Int32.ofNat st)), .val (.int (Int32.ofNat os)), .val (.int (Int32.ofNat q)), .val (.int (Int32.ofNat r)), .val (.ref bv), .val (.ref bs), .unset, .unset, .unset] [])) st1027 ?_
              refine go (T' := T1027) (g' := (mkF m 105 #[.val (.int p1), .val (.int p2), .val (.int p3), .val (.int p4), .val (.int p5), .val (.int (Int32.ofNat n)), .val (.int (Int32.ofNat st)), .val (.int (Int32.ofNat os)), .val (.int (Int32.ofNat q)), .val (.int (Int32.ofNat r)), .val (.ref bv), .val (.ref bs), .unset, .unset, .unset] [(.ref bs)])) (fun t kt => XS.aload X1027.here hx rfl (hb hby at_103) rfl rfl kt) ?_
              refine go (T' := T1027) (g' := (mkF m 107 #[.val (.int p1), .val (.int p2), .val (.int p3), .val (.int p4), .val (.int p5), .val (.int (Int32.ofNat n)), .val (.int (Int32.ofNat st)), .val (.int (Int32.ofNat os)), .val (.int (Int32.ofNat q)), .val (.int (Int32.ofNat r)), .val (.ref bv), .val (.ref bs), .unset, .unset, .unset] [(.int (Int32.ofNat st)), (.ref bs)])) (fun t kt => XS.iload X1027.here hx rfl (hb hby at_105) rfl kt) ?_
              refine go (T' := T1027) (g' := (mkF m 108 #[.val (.int p1), .val (.int p2), .val (.int p3), .val (.int p4), .val (.int p5), .val (.int (Int32.ofNat n)), .val (.int (Int32.ofNat st)), .val (.int (Int32.ofNat os)), .val (.int (Int32.ofNat q)), .val (.int (Int32.ofNat r)), .val (.ref bv), .val (.ref bs), .unset, .unset, .unset] [(.int (1 : Int32)), (.int (Int32.ofNat st)), (.ref bs)])) (fun t kt => XS.iconst X1027.here hx rfl (hb hby at_107) kt) ?_
              refine go (T' := T1027) (g' := (mkF m 109 #[.val (.int p1), .val (.int p2), .val (.int p3), .val (.int p4), .val (.int p5), .val (.int (Int32.ofNat n)), .val (.int (Int32.ofNat st)), .val (.int (Int32.ofNat os)), .val (.int (Int32.ofNat q)), .val (.int (Int32.ofNat r)), .val (.ref bv), .val (.ref bs), .unset, .unset, .unset] [(.int ((Int32.ofNat st) + (1 : Int32))), (.ref bs)])) (fun t kt => XS.iadd X1027.here hx rfl (hb hby at_108) rfl kt) ?_
              refine go (T' := T1027) (g' := (mkF m 110 #[.val (.int p1), .val (.int p2), .val (.int p3), .val (.int p4), .val (.int p5), .val (.int (Int32.ofNat n)), .val (.int (Int32.ofNat st)), .val (.int (Int32.ofNat os)), .val (.int (Int32.ofNat q)), .val (.int (Int32.ofNat r)), .val (.ref bv), .val (.ref bs), .unset, .unset, .unset] [(.int p2), (.int ((Int32.ofNat st) + (1 : Int32))), (.ref bs)])) (fun t kt => XS.iloadN X1027.here hx rfl (hb hby at_109) rfl kt) ?_
              refine goEq (g' := (mkF m 110 #[.val (.int p1), .val (.int p2), .val (.int p3), .val (.int p4), .val (.int p5), .val (.int (Int32.ofNat n)), .val (.int (Int32.ofNat st)), .val (.int (Int32.ofNat os)), .val (.int (Int32.ofNat q)), .val (.int (Int32.ofNat r)), .val (.ref bv), .val (.ref bs), .unset, .unset, .unset] [(.int p2), (.int (Int32.ofNat (st + 1))), (.ref bs)])) (by rw [show Int32.ofNat st + (1 : Int32) = Int32.ofNat (st + 1) from nn_add st 1]) ?_
              obtain ⟨T1028, h1028, X1028, e1028, W1028, V1028, st1028⟩ := own_stI X1027 hx hZ e1027 V1027 (j := (Int32.ofNat (st + 1))) ⟨nn_neg (by omega), (nn_lt (j := 4) (by omega) (by omega)).mpr (by omega)⟩ (g := (mkF m 110 #[.val (.int p1), .val (.int p2), .val (.int p3), .val (.int p4), .val (.int p5), .val (.int (Int32.ofNat n)), .val (.int (Int32.ofNat st)), .val (.int (Int32.ofNat os)), .val (.int (Int32.ofNat q)), .val (.int (Int32.ofNat r)), .val (.ref bv), .val (.ref bs), .unset, .unset, .unset] [(.int p2), (.int (Int32.ofNat (st + 1))), (.ref bs)])) rfl rfl (hb hby at_110)
              have z1028 : n0 ≤ h1028.size := Nat.le_trans z1027 (Keep.of_wr W1028).1
              have fA_bv_1028 : Aw Z h1028 bv .int (3 : Int32) (fun i => .int (own_v p1 p2 p3 i)) := fA_bv_1027.other W1028 ne_bv_bs
              have N1028 := Fr.snoc X1028 N1027 g_bs
              refine go (T' := T1028) (g' := (mkF m 111 #[.val (.int p1), .val (.int p2), .val (.int p3), .val (.int p4), .val (.int p5), .val (.int (Int32.ofNat n)), .val (.int (Int32.ofNat st)), .val (.int (Int32.ofNat os)), .val (.int (Int32.ofNat q)), .val (.int (Int32.ofNat r)), .val (.ref bv), .val (.ref bs), .unset, .unset, .unset] [])) st1028 ?_
              refine go (T' := T1028) (g' := (mkF m 113 #[.val (.int p1), .val (.int p2), .val (.int p3), .val (.int p4), .val (.int p5), .val (.int (Int32.ofNat n)), .val (.int (Int32.ofNat st)), .val (.int (Int32.ofNat os)), .val (.int (Int32.ofNat q)), .val (.int (Int32.ofNat r)), .val (.ref bv), .val (.ref bs), .unset, .unset, .unset] [(.ref bs)])) (fun t kt => XS.aload X1028.here hx rfl (hb hby at_111) rfl rfl kt) ?_
              refine go (T' := T1028) (g' := (mkF m 115 #[.val (.int p1), .val (.int p2), .val (.int p3), .val (.int p4), .val (.int p5), .val (.int (Int32.ofNat n)), .val (.int (Int32.ofNat st)), .val (.int (Int32.ofNat os)), .val (.int (Int32.ofNat q)), .val (.int (Int32.ofNat r)), .val (.ref bv), .val (.ref bs), .unset, .unset, .unset] [(.int (Int32.ofNat st)), (.ref bs)])) (fun t kt => XS.iload X1028.here hx rfl (hb hby at_113) rfl kt) ?_
              refine go (T' := T1028) (g' := (mkF m 116 #[.val (.int p1), .val (.int p2), .val (.int p3), .val (.int p4), .val (.int p5), .val (.int (Int32.ofNat n)), .val (.int (Int32.ofNat st)), .val (.int (Int32.ofNat os)), .val (.int (Int32.ofNat q)), .val (.int (Int32.ofNat r)), .val (.ref bv), .val (.ref bs), .unset, .unset, .unset] [(.int (2 : Int32)), (.int (Int32.ofNat st)), (.ref bs)])) (fun t kt => XS.iconst X1028.here hx rfl (hb hby at_115) kt) ?_
              refine go (T' := T1028) (g' := (mkF m 117 #[.val (.int p1), .val (.int p2), .val (.int p3), .val (.int p4), .val (.int p5), .val (.int (Int32.ofNat n)), .val (.int (Int32.ofNat st)), .val (.int (Int32.ofNat os)), .val (.int (Int32.ofNat q)), .val (.int (Int32.ofNat r)), .val (.ref bv), .val (.ref bs), .unset, .unset, .unset] [(.int ((Int32.ofNat st) + (2 : Int32))), (.ref bs)])) (fun t kt => XS.iadd X1028.here hx rfl (hb hby at_116) rfl kt) ?_
              refine go (T' := T1028) (g' := (mkF m 118 #[.val (.int p1), .val (.int p2), .val (.int p3), .val (.int p4), .val (.int p5), .val (.int (Int32.ofNat n)), .val (.int (Int32.ofNat st)), .val (.int (Int32.ofNat os)), .val (.int (Int32.ofNat q)), .val (.int (Int32.ofNat r)), .val (.ref bv), .val (.ref bs), .unset, .unset, .unset] [(.int p3), (.int ((Int32.ofNat st) + (2 : Int32))), (.ref bs)])) (fun t kt => XS.iloadN X1028.here hx rfl (hb hby at_117) rfl kt) ?_
              refine goEq (g' := (mkF m 118 #[.val (.int p1), .val (.int p2), .val (.int p3), .val (.int p4), .val (.int p5), .val (.int (Int32.ofNat n)), .val (.int (Int32.ofNat st)), .val (.int (Int32.ofNat os)), .val (.int (Int32.ofNat q)), .val (.int (Int32.ofNat r)), .val (.ref bv), .val (.ref bs), .unset, .unset, .unset] [(.int p3), (.int (Int32.ofNat (st + 2))), (.ref bs)])) (by rw [show Int32.ofNat st + (2 : Int32) = Int32.ofNat (st + 2) from nn_add st 2]) ?_
              obtain ⟨T1029, h1029, X1029, e1029, W1029, V1029, st1029⟩ := own_stI X1028 hx hZ e1028 V1028 (j := (Int32.ofNat (st + 2))) ⟨nn_neg (by omega), (nn_lt (j := 4) (by omega) (by omega)).mpr (by omega)⟩ (g := (mkF m 118 #[.val (.int p1), .val (.int p2), .val (.int p3), .val (.int p4), .val (.int p5), .val (.int (Int32.ofNat n)), .val (.int (Int32.ofNat st)), .val (.int (Int32.ofNat os)), .val (.int (Int32.ofNat q)), .val (.int (Int32.ofNat r)), .val (.ref bv), .val (.ref bs), .unset, .unset, .unset] [(.int p3), (.int (Int32.ofNat (st + 2))), (.ref bs)])) rfl rfl (hb hby at_118)
              have z1029 : n0 ≤ h1029.size := Nat.le_trans z1028 (Keep.of_wr W1029).1
              have fA_bv_1029 : Aw Z h1029 bv .int (3 : Int32) (fun i => .int (own_v p1 p2 p3 i)) := fA_bv_1028.other W1029 ne_bv_bs
              have N1029 := Fr.snoc X1029 N1028 g_bs
              refine go (T' := T1029) (g' := (mkF m 119 #[.val (.int p1), .val (.int p2), .val (.int p3), .val (.int p4), .val (.int p5), .val (.int (Int32.ofNat n)), .val (.int (Int32.ofNat st)), .val (.int (Int32.ofNat os)), .val (.int (Int32.ofNat q)), .val (.int (Int32.ofNat r)), .val (.ref bv), .val (.ref bs), .unset, .unset, .unset] [])) st1029 ?_
              refine go (T' := T1029) (g' := (mkF m 121 #[.val (.int p1), .val (.int p2), .val (.int p3), .val (.int p4), .val (.int p5), .val (.int (Int32.ofNat n)), .val (.int (Int32.ofNat st)), .val (.int (Int32.ofNat os)), .val (.int (Int32.ofNat q)), .val (.int (Int32.ofNat r)), .val (.ref bv), .val (.ref bs), .unset, .unset, .unset] [(.int (Int32.ofNat st))])) (fun t kt => XS.iload X1029.here hx rfl (hb hby at_119) rfl kt) ?_
              have j137 : ∀ (Tj1030 : State) (Lj1030 : List Loc) (hj1030 : Heap) , Stand p l e room_1 s m #[(.int p1), (.int p2), (.int p3), (.int p4), (.int p5)] below meth c Tj1030 Lj1030 2 7 → Tj1030.heap = hj1030 → Fr n0 Lj1030 → n0 ≤ hj1030.size → Aw Z hj1030 bv .int (3 : Int32) (fun i => .int (own_v p1 p2 p3 i)) → Aw Z hj1030 bs .int (4 : Int32) (fun i => .int (own_sq p1 p2 p3 p4 st i)) → Goes p e below s 7 83 (Q0 Z p1 p2 p3 p4 p5 h0 n0) Tj1030 (mkF m 137 #[.val (.int p1), .val (.int p2), .val (.int p3), .val (.int p4), .val (.int p5), .val (.int (Int32.ofNat n)), .val (.int (Int32.ofNat st)), .val (.int (Int32.ofNat os)), .val (.int (Int32.ofNat q)), .val (.int (Int32.ofNat r)), .val (.ref bv), .val (.ref bs), .unset, .unset, .unset] []) := by
                intro Tj1030 Lj1030 hj1030  Xj1030 ej1030 Nj1030 zj1030 fj1030_0 fj1030_1 
                have j160 : ∀ (Tj1033 : State) (Lj1033 : List Loc) (hj1033 : Heap) , Stand p l e room_1 s m #[(.int p1), (.int p2), (.int p3), (.int p4), (.int p5)] below meth c Tj1033 Lj1033 3 25 → Tj1033.heap = hj1033 → Fr n0 Lj1033 → n0 ≤ hj1033.size → Aw Z hj1033 bv .int (3 : Int32) (fun i => .int (own_v p1 p2 p3 i)) → Aw Z hj1033 bs .int (4 : Int32) (fun i => .int (own_sq p1 p2 p3 p4 st i)) → Goes p e below s 7 83 (Q0 Z p1 p2 p3 p4 p5 h0 n0) Tj1033 (mkF m 160 #[.val (.int p1), .val (.int p2), .val (.int p3), .val (.int p4), .val (.int p5), .val (.int (Int32.ofNat n)), .val (.int (Int32.ofNat st)), .val (.int (Int32.ofNat os)), .val (.int (Int32.ofNat q)), .val (.int (Int32.ofNat r)), .val (.ref bv), .val (.ref bs), .unset, .unset, .unset] [(.int (own_mi p1 p2 p3 p4 n q r))]) := by
                  intro Tj1033 Lj1033 hj1033  Xj1033 ej1033 Nj1033 zj1033 fj1033_0 fj1033_1 
                  refine go (T' := Tj1033) (g' := (mkF m 162 #[.val (.int p1), .val (.int p2), .val (.int p3), .val (.int p4), .val (.int p5), .val (.int (Int32.ofNat n)), .val (.int (Int32.ofNat st)), .val (.int (Int32.ofNat os)), .val (.int (Int32.ofNat q)), .val (.int (Int32.ofNat r)), .val (.ref bv), .val (.ref bs), .val (.int (own_mi p1 p2 p3 p4 n q r)), .unset, .unset] [])) (fun t kt => XS.istore Xj1033.here hx rfl (hb hby at_160) rfl (l' := #[.val (.int p1), .val (.int p2), .val (.int p3), .val (.int p4), .val (.int p5), .val (.int (Int32.ofNat n)), .val (.int (Int32.ofNat st)), .val (.int (Int32.ofNat os)), .val (.int (Int32.ofNat q)), .val (.int (Int32.ofNat r)), .val (.ref bv), .val (.ref bs), .val (.int (own_mi p1 p2 p3 p4 n q r)), .unset, .unset]) rfl kt) ?_
                  refine go (T' := Tj1033) (g' := (mkF m 163 #[.val (.int p1), .val (.int p2), .val (.int p3), .val (.int p4), .val (.int p5), .val (.int (Int32.ofNat n)), .val (.int (Int32.ofNat st)), .val (.int (Int32.ofNat os)), .val (.int (Int32.ofNat q)), .val (.int (Int32.ofNat r)), .val (.ref bv), .val (.ref bs), .val (.int (own_mi p1 p2 p3 p4 n q r)), .unset, .unset] [(.int (4 : Int32))])) (fun t kt => XS.iconst Xj1033.here hx rfl (hb hby at_162) kt) ?_
                  obtain ⟨T1035, h1035, kc1035, X1035, e1035, E1035, A1035, st1035⟩ := newP Xj1033 hx hZ (hw _ (List.mem_of_getElem? (i := 0) rfl)) ej1033 (g := (mkF m 163 #[.val (.int p1), .val (.int p2), .val (.int p3), .val (.int p4), .val (.int p5), .val (.int (Int32.ofNat n)), .val (.int (Int32.ofNat st)), .val (.int (Int32.ofNat os)), .val (.int (Int32.ofNat q)), .val (.int (Int32.ofNat r)), .val (.ref bv), .val (.ref bs), .val (.int (own_mi p1 p2 p3 p4 n q r)), .unset, .unset] [(.int (4 : Int32))])) rfl (hb hby at_163) rfl (by decide) (cap := 4) (by decide) (by decide) (by decide) (by decide)
                  obtain ⟨bo, g1035⟩ : ∃ z, z = hj1033.size := ⟨_, rfl⟩
                  rw [← g1035] at A1035 st1035
                  have ne_bs_bo : bs ≠ bo := Nat.ne_of_lt (Nat.lt_of_lt_of_le fj1033_1.lt (Nat.le_of_eq g1035.symm))
                  have ne_bv_bo : bv ≠ bo := Nat.ne_of_lt (Nat.lt_of_lt_of_le fj1033_0.lt (Nat.le_of_eq g1035.symm))
                  have g_bo : n0 ≤ bo := Nat.le_trans zj1033 (Nat.le_of_eq g1035.symm)
                  have z1035 : n0 ≤ h1035.size := Nat.le_trans zj1033 E1035.1
                  have fA_bv_1035 : Aw Z h1035 bv .int (3 : Int32) (fun i => .int (own_v p1 p2 p3 i)) := fj1033_0.ext E1035
                  have fA_bs_1035 : Aw Z h1035 bs .int (4 : Int32) (fun i => .int (own_sq p1 p2 p3 p4 st i)) := fj1033_1.ext E1035
                  have V_bo : Aw Z h1035 bo .int (4 : Int32) (fun _ => defaultValue .int) := Aw.new A1035 (by decide)
                  refine go (T' := T1035) (g' := (mkF m 165 #[.val (.int p1), .val (.int p2), .val (.int p3), .val (.int p4), .val (.int p5), .val (.int (Int32.ofNat n)), .val (.int (Int32.ofNat st)), .val (.int (Int32.ofNat os)), .val (.int (Int32.ofNat q)), .val (.int (Int32.ofNat r)), .val (.ref bv), .val (.ref bs), .val (.int (own_mi p1 p2 p3 p4 n q r)), .unset, .unset] [(.ref bo)])) st1035 ?_
                  refine go (T' := T1035) (g' := (mkF m 166 #[.val (.int p1), .val (.int p2), .val (.int p3), .val (.int p4), .val (.int p5), .val (.int (Int32.ofNat n)), .val (.int (Int32.ofNat st)), .val (.int (Int32.ofNat os)), .val (.int (Int32.ofNat q)), .val (.int (Int32.ofNat r)), .val (.ref bv), .val (.ref bs), .val (.int (own_mi p1 p2 p3 p4 n q r)), .unset, .unset] [(.ref bo), (.ref bo)])) (fun t kt => XS.dup X1035.here hx rfl (hb hby at_165) rfl rfl kt) ?_
                  refine go (T' := T1035) (g' := (mkF m 167 #[.val (.int p1), .val (.int p2), .val (.int p3), .val (.int p4), .val (.int p5), .val (.int (Int32.ofNat n)), .val (.int (Int32.ofNat st)), .val (.int (Int32.ofNat os)), .val (.int (Int32.ofNat q)), .val (.int (Int32.ofNat r)), .val (.ref bv), .val (.ref bs), .val (.int (own_mi p1 p2 p3 p4 n q r)), .unset, .unset] [(.int (0 : Int32)), (.ref bo), (.ref bo)])) (fun t kt => XS.iconst X1035.here hx rfl (hb hby at_166) kt) ?_
                  refine go (T' := T1035) (g' := (mkF m 169 #[.val (.int p1), .val (.int p2), .val (.int p3), .val (.int p4), .val (.int p5), .val (.int (Int32.ofNat n)), .val (.int (Int32.ofNat st)), .val (.int (Int32.ofNat os)), .val (.int (Int32.ofNat q)), .val (.int (Int32.ofNat r)), .val (.ref bv), .val (.ref bs), .val (.int (own_mi p1 p2 p3 p4 n q r)), .unset, .unset] [(.int (own_mi p1 p2 p3 p4 n q r)), (.int (0 : Int32)), (.ref bo), (.ref bo)])) (fun t kt => XS.iload X1035.here hx rfl (hb hby at_167) rfl kt) ?_
                  obtain ⟨T1036, h1036, X1036, e1036, W1036, V1036, st1036⟩ := own_stI X1035 hx hZ e1035 V_bo (j := (0 : Int32)) ⟨by decide, by decide⟩ (g := (mkF m 169 #[.val (.int p1), .val (.int p2), .val (.int p3), .val (.int p4), .val (.int p5), .val (.int (Int32.ofNat n)), .val (.int (Int32.ofNat st)), .val (.int (Int32.ofNat os)), .val (.int (Int32.ofNat q)), .val (.int (Int32.ofNat r)), .val (.ref bv), .val (.ref bs), .val (.int (own_mi p1 p2 p3 p4 n q r)), .unset, .unset] [(.int (own_mi p1 p2 p3 p4 n q r)), (.int (0 : Int32)), (.ref bo), (.ref bo)])) rfl rfl (hb hby at_169)
                  have z1036 : n0 ≤ h1036.size := Nat.le_trans z1035 (Keep.of_wr W1036).1
                  have fA_bv_1036 : Aw Z h1036 bv .int (3 : Int32) (fun i => .int (own_v p1 p2 p3 i)) := fA_bv_1035.other W1036 ne_bv_bo
                  have fA_bs_1036 : Aw Z h1036 bs .int (4 : Int32) (fun i => .int (own_sq p1 p2 p3 p4 st i)) := fA_bs_1035.other W1036 ne_bs_bo
                  have N1036 := Fr.snoc X1036 Nj1033 g_bo
                  refine go (T' := T1036) (g' := (mkF m 170 #[.val (.int p1), .val (.int p2), .val (.int p3), .val (.int p4), .val (.int p5), .val (.int (Int32.ofNat n)), .val (.int (Int32.ofNat st)), .val (.int (Int32.ofNat os)), .val (.int (Int32.ofNat q)), .val (.int (Int32.ofNat r)), .val (.ref bv), .val (.ref bs), .val (.int (own_mi p1 p2 p3 p4 n q r)), .unset, .unset] [(.ref bo)])) st1036 ?_
                  refine go (T' := T1036) (g' := (mkF m 171 #[.val (.int p1), .val (.int p2), .val (.int p3), .val (.int p4), .val (.int p5), .val (.int (Int32.ofNat n)), .val (.int (Int32.ofNat st)), .val (.int (Int32.ofNat os)), .val (.int (Int32.ofNat q)), .val (.int (Int32.ofNat r)), .val (.ref bv), .val (.ref bs), .val (.int (own_mi p1 p2 p3 p4 n q r)), .unset, .unset] [(.ref bo), (.ref bo)])) (fun t kt => XS.dup X1036.here hx rfl (hb hby at_170) rfl rfl kt) ?_
                  refine go (T' := T1036) (g' := (mkF m 172 #[.val (.int p1), .val (.int p2), .val (.int p3), .val (.int p4), .val (.int p5), .val (.int (Int32.ofNat n)), .val (.int (Int32.ofNat st)), .val (.int (Int32.ofNat os)), .val (.int (Int32.ofNat q)), .val (.int (Int32.ofNat r)), .val (.ref bv), .val (.ref bs), .val (.int (own_mi p1 p2 p3 p4 n q r)), .unset, .unset] [(.int (1 : Int32)), (.ref bo), (.ref bo)])) (fun t kt => XS.iconst X1036.here hx rfl (hb hby at_171) kt) ?_
                  refine go (T' := T1036) (g' := (mkF m 174 #[.val (.int p1), .val (.int p2), .val (.int p3), .val (.int p4), .val (.int p5), .val (.int (Int32.ofNat n)), .val (.int (Int32.ofNat st)), .val (.int (Int32.ofNat os)), .val (.int (Int32.ofNat q)), .val (.int (Int32.ofNat r)), .val (.ref bv), .val (.ref bs), .val (.int (own_mi p1 p2 p3 p4 n q r)), .unset, .unset] [(.int (own_mi p1 p2 p3 p4 n q r)), (.int (1 : Int32)), (.ref bo), (.ref bo)])) (fun t kt => XS.iload X1036.here hx rfl (hb hby at_172) rfl kt) ?_
                  obtain ⟨T1037, h1037, X1037, e1037, W1037, V1037, st1037⟩ := own_stI X1036 hx hZ e1036 V1036 (j := (1 : Int32)) ⟨by decide, by decide⟩ (g := (mkF m 174 #[.val (.int p1), .val (.int p2), .val (.int p3), .val (.int p4), .val (.int p5), .val (.int (Int32.ofNat n)), .val (.int (Int32.ofNat st)), .val (.int (Int32.ofNat os)), .val (.int (Int32.ofNat q)), .val (.int (Int32.ofNat r)), .val (.ref bv), .val (.ref bs), .val (.int (own_mi p1 p2 p3 p4 n q r)), .unset, .unset] [(.int (own_mi p1 p2 p3 p4 n q r)), (.int (1 : Int32)), (.ref bo), (.ref bo)])) rfl rfl (hb hby at_174)
                  have z1037 : n0 ≤ h1037.size := Nat.le_trans z1036 (Keep.of_wr W1037).1
                  have fA_bv_1037 : Aw Z h1037 bv .int (3 : Int32) (fun i => .int (own_v p1 p2 p3 i)) := fA_bv_1036.other W1037 ne_bv_bo
                  have fA_bs_1037 : Aw Z h1037 bs .int (4 : Int32) (fun i => .int (own_sq p1 p2 p3 p4 st i)) := fA_bs_1036.other W1037 ne_bs_bo
                  have N1037 := Fr.snoc X1037 N1036 g_bo
                  refine go (T' := T1037) (g' := (mkF m 175 #[.val (.int p1), .val (.int p2), .val (.int p3), .val (.int p4), .val (.int p5), .val (.int (Int32.ofNat n)), .val (.int (Int32.ofNat st)), .val (.int (Int32.ofNat os)), .val (.int (Int32.ofNat q)), .val (.int (Int32.ofNat r)), .val (.ref bv), .val (.ref bs), .val (.int (own_mi p1 p2 p3 p4 n q r)), .unset, .unset] [(.ref bo)])) st1037 ?_
                  refine go (T' := T1037) (g' := (mkF m 176 #[.val (.int p1), .val (.int p2), .val (.int p3), .val (.int p4), .val (.int p5), .val (.int (Int32.ofNat n)), .val (.int (Int32.ofNat st)), .val (.int (Int32.ofNat os)), .val (.int (Int32.ofNat q)), .val (.int (Int32.ofNat r)), .val (.ref bv), .val (.ref bs), .val (.int (own_mi p1 p2 p3 p4 n q r)), .unset, .unset] [(.ref bo), (.ref bo)])) (fun t kt => XS.dup X1037.here hx rfl (hb hby at_175) rfl rfl kt) ?_
                  refine go (T' := T1037) (g' := (mkF m 177 #[.val (.int p1), .val (.int p2), .val (.int p3), .val (.int p4), .val (.int p5), .val (.int (Int32.ofNat n)), .val (.int (Int32.ofNat st)), .val (.int (Int32.ofNat os)), .val (.int (Int32.ofNat q)), .val (.int (Int32.ofNat r)), .val (.ref bv), .val (.ref bs), .val (.int (own_mi p1 p2 p3 p4 n q r)), .unset, .unset] [(.int (2 : Int32)), (.ref bo), (.ref bo)])) (fun t kt => XS.iconst X1037.here hx rfl (hb hby at_176) kt) ?_
                  refine go (T' := T1037) (g' := (mkF m 179 #[.val (.int p1), .val (.int p2), .val (.int p3), .val (.int p4), .val (.int p5), .val (.int (Int32.ofNat n)), .val (.int (Int32.ofNat st)), .val (.int (Int32.ofNat os)), .val (.int (Int32.ofNat q)), .val (.int (Int32.ofNat r)), .val (.ref bv), .val (.ref bs), .val (.int (own_mi p1 p2 p3 p4 n q r)), .unset, .unset] [(.int (own_mi p1 p2 p3 p4 n q r)), (.int (2 : Int32)), (.ref bo), (.ref bo)])) (fun t kt => XS.iload X1037.here hx rfl (hb hby at_177) rfl kt) ?_
                  obtain ⟨T1038, h1038, X1038, e1038, W1038, V1038, st1038⟩ := own_stI X1037 hx hZ e1037 V1037 (j := (2 : Int32)) ⟨by decide, by decide⟩ (g := (mkF m 179 #[.val (.int p1), .val (.int p2), .val (.int p3), .val (.int p4), .val (.int p5), .val (.int (Int32.ofNat n)), .val (.int (Int32.ofNat st)), .val (.int (Int32.ofNat os)), .val (.int (Int32.ofNat q)), .val (.int (Int32.ofNat r)), .val (.ref bv), .val (.ref bs), .val (.int (own_mi p1 p2 p3 p4 n q r)), .unset, .unset] [(.int (own_mi p1 p2 p3 p4 n q r)), (.int (2 : Int32)), (.ref bo), (.ref bo)])) rfl rfl (hb hby at_179)
                  have z1038 : n0 ≤ h1038.size := Nat.le_trans z1037 (Keep.of_wr W1038).1
                  have fA_bv_1038 : Aw Z h1038 bv .int (3 : Int32) (fun i => .int (own_v p1 p2 p3 i)) := fA_bv_1037.other W1038 ne_bv_bo
                  have fA_bs_1038 : Aw Z h1038 bs .int (4 : Int32) (fun i => .int (own_sq p1 p2 p3 p4 st i)) := fA_bs_1037.other W1038 ne_bs_bo
                  have N1038 := Fr.snoc X1038 N1037 g_bo
                  refine go (T' := T1038) (g' := (mkF m 180 #[.val (.int p1), .val (.int p2), .val (.int p3), .val (.int p4), .val (.int p5), .val (.int (Int32.ofNat n)), .val (.int (Int32.ofNat st)), .val (.int (Int32.ofNat os)), .val (.int (Int32.ofNat q)), .val (.int (Int32.ofNat r)), .val (.ref bv), .val (.ref bs), .val (.int (own_mi p1 p2 p3 p4 n q r)), .unset, .unset] [(.ref bo)])) st1038 ?_
                  refine go (T' := T1038) (g' := (mkF m 181 #[.val (.int p1), .val (.int p2), .val (.int p3), .val (.int p4), .val (.int p5), .val (.int (Int32.ofNat n)), .val (.int (Int32.ofNat st)), .val (.int (Int32.ofNat os)), .val (.int (Int32.ofNat q)), .val (.int (Int32.ofNat r)), .val (.ref bv), .val (.ref bs), .val (.int (own_mi p1 p2 p3 p4 n q r)), .unset, .unset] [(.ref bo), (.ref bo)])) (fun t kt => XS.dup X1038.here hx rfl (hb hby at_180) rfl rfl kt) ?_
                  refine go (T' := T1038) (g' := (mkF m 182 #[.val (.int p1), .val (.int p2), .val (.int p3), .val (.int p4), .val (.int p5), .val (.int (Int32.ofNat n)), .val (.int (Int32.ofNat st)), .val (.int (Int32.ofNat os)), .val (.int (Int32.ofNat q)), .val (.int (Int32.ofNat r)), .val (.ref bv), .val (.ref bs), .val (.int (own_mi p1 p2 p3 p4 n q r)), .unset, .unset] [(.int (3 : Int32)), (.ref bo), (.ref bo)])) (fun t kt => XS.iconst X1038.here hx rfl (hb hby at_181) kt) ?_
                  refine go (T' := T1038) (g' := (mkF m 184 #[.val (.int p1), .val (.int p2), .val (.int p3), .val (.int p4), .val (.int p5), .val (.int (Int32.ofNat n)), .val (.int (Int32.ofNat st)), .val (.int (Int32.ofNat os)), .val (.int (Int32.ofNat q)), .val (.int (Int32.ofNat r)), .val (.ref bv), .val (.ref bs), .val (.int (own_mi p1 p2 p3 p4 n q r)), .unset, .unset] [(.int (own_mi p1 p2 p3 p4 n q r)), (.int (3 : Int32)), (.ref bo), (.ref bo)])) (fun t kt => XS.iload X1038.here hx rfl (hb hby at_182) rfl kt) ?_
                  obtain ⟨T1039, h1039, X1039, e1039, W1039, V1039, st1039⟩ := own_stI X1038 hx hZ e1038 V1038 (j := (3 : Int32)) ⟨by decide, by decide⟩ (g := (mkF m 184 #[.val (.int p1), .val (.int p2), .val (.int p3), .val (.int p4), .val (.int p5), .val (.int (Int32.ofNat n)), .val (.int (Int32.ofNat st)), .val (.int (Int32.ofNat os)), .val (.int (Int32.ofNat q)), .val (.int (Int32.ofNat r)), .val (.ref bv), .val (.ref bs), .val (.int (own_mi p1 p2 p3 p4 n q r)), .unset, .unset] [(.int (own_mi p1 p2 p3 p4 n q r)), (.int (3 : Int32)), (.ref bo), (.ref bo)])) rfl rfl (hb hby at_184)
                  have z1039 : n0 ≤ h1039.size := Nat.le_trans z1038 (Keep.of_wr W1039).1
                  have fA_bv_1039 : Aw Z h1039 bv .int (3 : Int32) (fun i => .int (own_v p1 p2 p3 i)) := fA_bv_1038.other W1039 ne_bv_bo
                  have fA_bs_1039 : Aw Z h1039 bs .int (4 : Int32) (fun i => .int (own_sq p1 p2 p3 p4 st i)) := fA_bs_1038.other W1039 ne_bs_bo
                  have N1039 := Fr.snoc X1039 N1038 g_bo
                  refine go (T' := T1039) (g' := (mkF m 185 #[.val (.int p1), .val (.int p2), .val (.int p3), .val (.int p4), .val (.int p5), .val (.int (Int32.ofNat n)), .val (.int (Int32.ofNat st)), .val (.int (Int32.ofNat os)), .val (.int (Int32.ofNat q)), .val (.int (Int32.ofNat r)), .val (.ref bv), .val (.ref bs), .val (.int (own_mi p1 p2 p3 p4 n q r)), .unset, .unset] [(.ref bo)])) st1039 ?_
                  refine go (T' := T1039) (g' := (mkF m 187 #[.val (.int p1), .val (.int p2), .val (.int p3), .val (.int p4), .val (.int p5), .val (.int (Int32.ofNat n)), .val (.int (Int32.ofNat st)), .val (.int (Int32.ofNat os)), .val (.int (Int32.ofNat q)), .val (.int (Int32.ofNat r)), .val (.ref bv), .val (.ref bs), .val (.int (own_mi p1 p2 p3 p4 n q r)), .val (.ref bo), .unset] [])) (fun t kt => XS.astore X1039.here hx rfl (hb hby at_185) rfl rfl (l' := #[.val (.int p1), .val (.int p2), .val (.int p3), .val (.int p4), .val (.int p5), .val (.int (Int32.ofNat n)), .val (.int (Int32.ofNat st)), .val (.int (Int32.ofNat os)), .val (.int (Int32.ofNat q)), .val (.int (Int32.ofNat r)), .val (.ref bv), .val (.ref bs), .val (.int (own_mi p1 p2 p3 p4 n q r)), .val (.ref bo), .unset]) rfl kt) ?_
                  refine go (T' := T1039) (g' := (mkF m 189 #[.val (.int p1), .val (.int p2), .val (.int p3), .val (.int p4), .val (.int p5), .val (.int (Int32.ofNat n)), .val (.int (Int32.ofNat st)), .val (.int (Int32.ofNat os)), .val (.int (Int32.ofNat q)), .val (.int (Int32.ofNat r)), .val (.ref bv), .val (.ref bs), .val (.int (own_mi p1 p2 p3 p4 n q r)), .val (.ref bo), .unset] [(.int (Int32.ofNat n))])) (fun t kt => XS.iload X1039.here hx rfl (hb hby at_187) rfl kt) ?_
                  have Vo : Aw Z h1039 bo .int (4 : Int32) (fun i => .int (own_o0 p1 p2 p3 p4 n q r i)) := V1039.congr (fun i hi => (by have hi2 : i < 4 := hi; have hc : i = 0 ∨ i = 1 ∨ i = 2 ∨ i = 3 := (by omega); rcases hc with rfl | rfl | rfl | rfl <;> rfl))
                  have j208 : ∀ (Tj1040 : State) (Lj1040 : List Loc) (hj1040 : Heap) , Stand p l e room_1 s m #[(.int p1), (.int p2), (.int p3), (.int p4), (.int p5)] below meth c Tj1040 Lj1040 5 47 → Tj1040.heap = hj1040 → Fr n0 Lj1040 → n0 ≤ hj1040.size → Aw Z hj1040 bv .int (3 : Int32) (fun i => .int (own_v p1 p2 p3 i)) → Aw Z hj1040 bs .int (4 : Int32) (fun i => .int (own_sq p1 p2 p3 p4 st i)) → Aw Z hj1040 bo .int (4 : Int32) (fun i => .int (own_o1 p1 p2 p3 p4 n q r os i)) → Goes p e below s 7 83 (Q0 Z p1 p2 p3 p4 p5 h0 n0) Tj1040 (mkF m 208 #[.val (.int p1), .val (.int p2), .val (.int p3), .val (.int p4), .val (.int p5), .val (.int (Int32.ofNat n)), .val (.int (Int32.ofNat st)), .val (.int (Int32.ofNat os)), .val (.int (Int32.ofNat q)), .val (.int (Int32.ofNat r)), .val (.ref bv), .val (.ref bs), .val (.int (own_mi p1 p2 p3 p4 n q r)), .val (.ref bo), .unset] []) := by
                    intro Tj1040 Lj1040 hj1040  Xj1040 ej1040 Nj1040 zj1040 fj1040_0 fj1040_1 fj1040_2 
                    have j232 : ∀ (Tj1043 : State) (Lj1043 : List Loc) (hj1043 : Heap) , Stand p l e room_1 s m #[(.int p1), (.int p2), (.int p3), (.int p4), (.int p5)] below meth c Tj1043 Lj1043 6 65 → Tj1043.heap = hj1043 → Fr n0 Lj1043 → n0 ≤ hj1043.size → Aw Z hj1043 bv .int (3 : Int32) (fun i => .int (own_v p1 p2 p3 i)) → Aw Z hj1043 bs .int (4 : Int32) (fun i => .int (own_sq p1 p2 p3 p4 st i)) → Aw Z hj1043 bo .int (4 : Int32) (fun i => .int (own_o2 p1 p2 p3 p4 n q r os i)) → Goes p e below s 7 83 (Q0 Z p1 p2 p3 p4 p5 h0 n0) Tj1043 (mkF m 232 #[.val (.int p1), .val (.int p2), .val (.int p3), .val (.int p4), .val (.int p5), .val (.int (Int32.ofNat n)), .val (.int (Int32.ofNat st)), .val (.int (Int32.ofNat os)), .val (.int (Int32.ofNat q)), .val (.int (Int32.ofNat r)), .val (.ref bv), .val (.ref bs), .val (.int (own_mi p1 p2 p3 p4 n q r)), .val (.ref bo), .unset] []) := by
                      intro Tj1043 Lj1043 hj1043  Xj1043 ej1043 Nj1043 zj1043 fj1043_0 fj1043_1 fj1043_2 
                      have j256 : ∀ (Tj1046 : State) (Lj1046 : List Loc) (hj1046 : Heap) , Stand p l e room_1 s m #[(.int p1), (.int p2), (.int p3), (.int p4), (.int p5)] below meth c Tj1046 Lj1046 7 83 → Tj1046.heap = hj1046 → Fr n0 Lj1046 → n0 ≤ hj1046.size → Aw Z hj1046 bv .int (3 : Int32) (fun i => .int (own_v p1 p2 p3 i)) → Aw Z hj1046 bs .int (4 : Int32) (fun i => .int (own_sq p1 p2 p3 p4 st i)) → Aw Z hj1046 bo .int (4 : Int32) (fun i => .int (own_o3 p1 p2 p3 p4 n q r os i)) → Goes p e below s 7 83 (Q0 Z p1 p2 p3 p4 p5 h0 n0) Tj1046 (mkF m 256 #[.val (.int p1), .val (.int p2), .val (.int p3), .val (.int p4), .val (.int p5), .val (.int (Int32.ofNat n)), .val (.int (Int32.ofNat st)), .val (.int (Int32.ofNat os)), .val (.int (Int32.ofNat q)), .val (.int (Int32.ofNat r)), .val (.ref bv), .val (.ref bs), .val (.int (own_mi p1 p2 p3 p4 n q r)), .val (.ref bo), .unset] []) := by
                        intro Tj1046 Lj1046 hj1046  Xj1046 ej1046 Nj1046 zj1046 fj1046_0 fj1046_1 fj1046_2 
                        have j272 : ∀ (Tj1049 : State) (Lj1049 : List Loc) (hj1049 : Heap) , Stand p l e room_1 s m #[(.int p1), (.int p2), (.int p3), (.int p4), (.int p5)] below meth c Tj1049 Lj1049 7 83 → Tj1049.heap = hj1049 → Fr n0 Lj1049 → n0 ≤ hj1049.size → Aw Z hj1049 bv .int (3 : Int32) (fun i => .int (own_v p1 p2 p3 i)) → Aw Z hj1049 bs .int (4 : Int32) (fun i => .int (own_sq p1 p2 p3 p4 st i)) → Aw Z hj1049 bo .int (4 : Int32) (fun i => .int (own_o4 p1 p2 p3 p4 n q r os i)) → Goes p e below s 7 83 (Q0 Z p1 p2 p3 p4 p5 h0 n0) Tj1049 (mkF m 272 #[.val (.int p1), .val (.int p2), .val (.int p3), .val (.int p4), .val (.int p5), .val (.int (Int32.ofNat n)), .val (.int (Int32.ofNat st)), .val (.int (Int32.ofNat os)), .val (.int (Int32.ofNat q)), .val (.int (Int32.ofNat r)), .val (.ref bv), .val (.ref bs), .val (.int (own_mi p1 p2 p3 p4 n q r)), .val (.ref bo), .unset] []) := by
                          intro Tj1049 Lj1049 hj1049  Xj1049 ej1049 Nj1049 zj1049 fj1049_0 fj1049_1 fj1049_2 
                          refine goVia (T₂ := Tj1049) (g₂ := (mkF m 284 #[.val (.int p1), .val (.int p2), .val (.int p3), .val (.int p4), .val (.int p5), .val (.int (Int32.ofNat n)), .val (.int (Int32.ofNat st)), .val (.int (Int32.ofNat os)), .val (.int (Int32.ofNat q)), .val (.int (Int32.ofNat r)), .val (.ref bv), .val (.ref bs), .val (.int (own_mi p1 p2 p3 p4 n q r)), .val (.ref bo), .unset] [(.int (own_b (decide (¬ r < n))))])) (fun kV => ?_) ?_
                          · refine go (T' := Tj1049) (g' := (mkF m 274 #[.val (.int p1), .val (.int p2), .val (.int p3), .val (.int p4), .val (.int p5), .val (.int (Int32.ofNat n)), .val (.int (Int32.ofNat st)), .val (.int (Int32.ofNat os)), .val (.int (Int32.ofNat q)), .val (.int (Int32.ofNat r)), .val (.ref bv), .val (.ref bs), .val (.int (own_mi p1 p2 p3 p4 n q r)), .val (.ref bo), .unset] [(.int (Int32.ofNat r))])) (fun t kt => XS.iload Xj1049.here hx rfl (hb hby at_272) rfl kt) ?_
                            refine go (T' := Tj1049) (g' := (mkF m 276 #[.val (.int p1), .val (.int p2), .val (.int p3), .val (.int p4), .val (.int p5), .val (.int (Int32.ofNat n)), .val (.int (Int32.ofNat st)), .val (.int (Int32.ofNat os)), .val (.int (Int32.ofNat q)), .val (.int (Int32.ofNat r)), .val (.ref bv), .val (.ref bs), .val (.int (own_mi p1 p2 p3 p4 n q r)), .val (.ref bo), .unset] [(.int (Int32.ofNat n)), (.int (Int32.ofNat r))])) (fun t kt => XS.iload Xj1049.here hx rfl (hb hby at_274) rfl kt) ?_
                            by_cases hz : (Int32.ofNat r) < (Int32.ofNat n)
                            · refine go (T' := Tj1049) (g' := (mkF m 283 #[.val (.int p1), .val (.int p2), .val (.int p3), .val (.int p4), .val (.int p5), .val (.int (Int32.ofNat n)), .val (.int (Int32.ofNat st)), .val (.int (Int32.ofNat os)), .val (.int (Int32.ofNat q)), .val (.int (Int32.ofNat r)), .val (.ref bv), .val (.ref bs), .val (.int (own_mi p1 p2 p3 p4 n q r)), .val (.ref bo), .unset] [])) (fun t kt => XS.icmpYes Xj1049.here hx rfl (pc0 := 276) (pc' := 283) rfl (hb hby at_276) rfl (tlt hz).1 (by decide) (by decide) kt) ?_
                              have kz := (nn_lt (by omega) (by omega)).mp hz
                              refine go (T' := Tj1049) (g' := (mkF m 284 #[.val (.int p1), .val (.int p2), .val (.int p3), .val (.int p4), .val (.int p5), .val (.int (Int32.ofNat n)), .val (.int (Int32.ofNat st)), .val (.int (Int32.ofNat os)), .val (.int (Int32.ofNat q)), .val (.int (Int32.ofNat r)), .val (.ref bv), .val (.ref bs), .val (.int (own_mi p1 p2 p3 p4 n q r)), .val (.ref bo), .unset] [(.int (0 : Int32))])) (fun t kt => XS.iconst Xj1049.here hx rfl (hb hby at_283) kt) ?_
                              exact goEq (by rw [own_bf (by simpa using kz)]) kV
                            · refine go (T' := Tj1049) (g' := (mkF m 279 #[.val (.int p1), .val (.int p2), .val (.int p3), .val (.int p4), .val (.int p5), .val (.int (Int32.ofNat n)), .val (.int (Int32.ofNat st)), .val (.int (Int32.ofNat os)), .val (.int (Int32.ofNat q)), .val (.int (Int32.ofNat r)), .val (.ref bv), .val (.ref bs), .val (.int (own_mi p1 p2 p3 p4 n q r)), .val (.ref bo), .unset] [])) (fun t kt => XS.icmpNo Xj1049.here hx rfl (hb hby at_276) rfl (flt hz).1 kt) ?_
                              have kz : ¬ r < n := fun z => hz ((nn_lt (by omega) (by omega)).mpr z)
                              refine go (T' := Tj1049) (g' := (mkF m 280 #[.val (.int p1), .val (.int p2), .val (.int p3), .val (.int p4), .val (.int p5), .val (.int (Int32.ofNat n)), .val (.int (Int32.ofNat st)), .val (.int (Int32.ofNat os)), .val (.int (Int32.ofNat q)), .val (.int (Int32.ofNat r)), .val (.ref bv), .val (.ref bs), .val (.int (own_mi p1 p2 p3 p4 n q r)), .val (.ref bo), .unset] [(.int (1 : Int32))])) (fun t kt => XS.iconst Xj1049.here hx rfl (hb hby at_279) kt) ?_
                              refine go (T' := Tj1049) (g' := (mkF m 284 #[.val (.int p1), .val (.int p2), .val (.int p3), .val (.int p4), .val (.int p5), .val (.int (Int32.ofNat n)), .val (.int (Int32.ofNat st)), .val (.int (Int32.ofNat os)), .val (.int (Int32.ofNat q)), .val (.int (Int32.ofNat r)), .val (.ref bv), .val (.ref bs), .val (.int (own_mi p1 p2 p3 p4 n q r)), .val (.ref bo), .unset] [(.int (1 : Int32))])) (fun t kt => XS.goto Xj1049.here hx rfl (pc0 := 280) (pc' := 284) rfl (hb hby at_280) (by decide) (by decide) kt) ?_
                              exact goEq (by rw [own_bt (by simpa using kz)]) kV
                          · refine go (T' := Tj1049) (g' := (mkF m 286 #[.val (.int p1), .val (.int p2), .val (.int p3), .val (.int p4), .val (.int p5), .val (.int (Int32.ofNat n)), .val (.int (Int32.ofNat st)), .val (.int (Int32.ofNat os)), .val (.int (Int32.ofNat q)), .val (.int (Int32.ofNat r)), .val (.ref bv), .val (.ref bs), .val (.int (own_mi p1 p2 p3 p4 n q r)), .val (.ref bo), .val (.int (own_b (decide (¬ r < n))))] [])) (fun t kt => XS.istore Xj1049.here hx rfl (hb hby at_284) rfl (l' := #[.val (.int p1), .val (.int p2), .val (.int p3), .val (.int p4), .val (.int p5), .val (.int (Int32.ofNat n)), .val (.int (Int32.ofNat st)), .val (.int (Int32.ofNat os)), .val (.int (Int32.ofNat q)), .val (.int (Int32.ofNat r)), .val (.ref bv), .val (.ref bs), .val (.int (own_mi p1 p2 p3 p4 n q r)), .val (.ref bo), .val (.int (own_b (decide (¬ r < n))))]) rfl kt) ?_
                            refine go (T' := Tj1049) (g' := (mkF m 288 #[.val (.int p1), .val (.int p2), .val (.int p3), .val (.int p4), .val (.int p5), .val (.int (Int32.ofNat n)), .val (.int (Int32.ofNat st)), .val (.int (Int32.ofNat os)), .val (.int (Int32.ofNat q)), .val (.int (Int32.ofNat r)), .val (.ref bv), .val (.ref bs), .val (.int (own_mi p1 p2 p3 p4 n q r)), .val (.ref bo), .val (.int (own_b (decide (¬ r < n))))] [(.ref bs)])) (fun t kt => XS.aload Xj1049.here hx rfl (hb hby at_286) rfl rfl kt) ?_
                            refine go (T' := Tj1049) (g' := (mkF m 290 #[.val (.int p1), .val (.int p2), .val (.int p3), .val (.int p4), .val (.int p5), .val (.int (Int32.ofNat n)), .val (.int (Int32.ofNat st)), .val (.int (Int32.ofNat os)), .val (.int (Int32.ofNat q)), .val (.int (Int32.ofNat r)), .val (.ref bv), .val (.ref bs), .val (.int (own_mi p1 p2 p3 p4 n q r)), .val (.ref bo), .val (.int (own_b (decide (¬ r < n))))] [(.int (Int32.ofNat st)), (.ref bs)])) (fun t kt => XS.iload Xj1049.here hx rfl (hb hby at_288) rfl kt) ?_
                            refine go (T' := Tj1049) (g' := (mkF m 292 #[.val (.int p1), .val (.int p2), .val (.int p3), .val (.int p4), .val (.int p5), .val (.int (Int32.ofNat n)), .val (.int (Int32.ofNat st)), .val (.int (Int32.ofNat os)), .val (.int (Int32.ofNat q)), .val (.int (Int32.ofNat r)), .val (.ref bv), .val (.ref bs), .val (.int (own_mi p1 p2 p3 p4 n q r)), .val (.ref bo), .val (.int (own_b (decide (¬ r < n))))] [(.ref bo), (.int (Int32.ofNat st)), (.ref bs)])) (fun t kt => XS.aload Xj1049.here hx rfl (hb hby at_290) rfl rfl kt) ?_
                            refine go (T' := Tj1049) (g' := (mkF m 294 #[.val (.int p1), .val (.int p2), .val (.int p3), .val (.int p4), .val (.int p5), .val (.int (Int32.ofNat n)), .val (.int (Int32.ofNat st)), .val (.int (Int32.ofNat os)), .val (.int (Int32.ofNat q)), .val (.int (Int32.ofNat r)), .val (.ref bv), .val (.ref bs), .val (.int (own_mi p1 p2 p3 p4 n q r)), .val (.ref bo), .val (.int (own_b (decide (¬ r < n))))] [(.int (Int32.ofNat os)), (.ref bo), (.int (Int32.ofNat st)), (.ref bs)])) (fun t kt => XS.iload Xj1049.here hx rfl (hb hby at_292) rfl kt) ?_
                            refine go (T' := Tj1049) (g' := (mkF m 296 #[.val (.int p1), .val (.int p2), .val (.int p3), .val (.int p4), .val (.int p5), .val (.int (Int32.ofNat n)), .val (.int (Int32.ofNat st)), .val (.int (Int32.ofNat os)), .val (.int (Int32.ofNat q)), .val (.int (Int32.ofNat r)), .val (.ref bv), .val (.ref bs), .val (.int (own_mi p1 p2 p3 p4 n q r)), .val (.ref bo), .val (.int (own_b (decide (¬ r < n))))] [(.int (Int32.ofNat n)), (.int (Int32.ofNat os)), (.ref bo), (.int (Int32.ofNat st)), (.ref bs)])) (fun t kt => XS.iload Xj1049.here hx rfl (hb hby at_294) rfl kt) ?_
                            obtain ⟨_, _, ⟨T1051, L1051, k1051, n1051⟩, -, X1051, ⟨Lc1051, hQ1051, l1051, y1051, z1051⟩, st1051⟩ := Jvm.LawKit.callS Xj1049 hx (y := (⟨"com/example/damarium/damarium/position/Move", "sameSquares", "([II[III)Z"⟩ : MethodName)) hown (mvT hZ (hw _ (List.mem_of_getElem? (i := 1) rfl))) (mvT hZ (hw _ (List.mem_of_getElem? (i := 2) rfl))) (mvT hZ (hw _ (List.mem_of_getElem? (i := 3) rfl))) (mvT hZ (hw _ (List.mem_of_getElem? (i := 4) rfl))) (by decide) (backOf (W := 0) (rm1 l Z a0 hw [] bs (Int32.ofNat st) bo (Int32.ofNat os) (Int32.ofNat n) (own_sq p1 p2 p3 p4 st) (own_o4 p1 p2 p3 p4 n q r os) st os n hj1049 n0 zj1049 fj1049_1 fj1049_2 rfl rfl rfl (by omega) (by omega)) hZ (hw _ (List.mem_of_getElem? (i := 4) rfl)) (hw _ (List.mem_of_getElem? (i := 3) rfl)) (by decide) (by decide)) (g := (mkF m 296 #[.val (.int p1), .val (.int p2), .val (.int p3), .val (.int p4), .val (.int p5), .val (.int (Int32.ofNat n)), .val (.int (Int32.ofNat st)), .val (.int (Int32.ofNat os)), .val (.int (Int32.ofNat q)), .val (.int (Int32.ofNat r)), .val (.ref bv), .val (.ref bs), .val (.int (own_mi p1 p2 p3 p4 n q r)), .val (.ref bo), .val (.int (own_b (decide (¬ r < n))))] [(.int (Int32.ofNat n)), (.int (Int32.ofNat os)), (.ref bo), (.int (Int32.ofNat st)), (.ref bs)])) rfl (by rw [hml]; rfl) (argsL := [(.ref bs), (.int (Int32.ofNat st)), (.ref bo), (.int (Int32.ofNat os)), (.int (Int32.ofNat n))]) (rest := []) (lenOf pd_1 rfl) rfl (by show 2 * 0 + _ ≤ _; exact Nat.le_of_eq rfl) (hb hby at_296) (fun _ _ => ⟨rfl, ej1049, (by decide : 7 + 0 ≤ _), (by decide : 83 + 0 ≤ _)⟩)
                            dsimp only [Pt.U, Pt.locs, Pt.cells, Pt.slots] at X1051 l1051 y1051 z1051 st1051 hQ1051
                            subst l1051 y1051 z1051
                            obtain ⟨rfl, N1051q, e1051⟩ := hQ1051
                            have N1051 := Fr.app Nj1049 N1051q
                            refine go (T' := T1051) (g' := (mkF m 299 #[.val (.int p1), .val (.int p2), .val (.int p3), .val (.int p4), .val (.int p5), .val (.int (Int32.ofNat n)), .val (.int (Int32.ofNat st)), .val (.int (Int32.ofNat os)), .val (.int (Int32.ofNat q)), .val (.int (Int32.ofNat r)), .val (.ref bv), .val (.ref bs), .val (.int (own_mi p1 p2 p3 p4 n q r)), .val (.ref bo), .val (.int (own_b (decide (¬ r < n))))] [(.int (own_b (own_same (own_sq p1 p2 p3 p4 st) (own_o4 p1 p2 p3 p4 n q r os) os n n st)))])) st1051 ?_
                            refine go (T' := T1051) (g' := (mkF m 301 #[.val (.int p1), .val (.int p2), .val (.int p3), .val (.int p4), .val (.int p5), .val (.int (Int32.ofNat n)), .val (.int (Int32.ofNat st)), .val (.int (Int32.ofNat os)), .val (.int (Int32.ofNat q)), .val (.int (Int32.ofNat r)), .val (.ref bv), .val (.ref bs), .val (.int (own_mi p1 p2 p3 p4 n q r)), .val (.ref bo), .val (.int (own_b (decide (¬ r < n))))] [(.int (own_b (decide (¬ r < n)))), (.int (own_b (own_same (own_sq p1 p2 p3 p4 st) (own_o4 p1 p2 p3 p4 n q r os) os n n st)))])) (fun t kt => XS.iload X1051.here hx rfl (hb hby at_299) rfl kt) ?_
                            refine go (T' := T1051) (g' := (mkF m 304 #[.val (.int p1), .val (.int p2), .val (.int p3), .val (.int p4), .val (.int p5), .val (.int (Int32.ofNat n)), .val (.int (Int32.ofNat st)), .val (.int (Int32.ofNat os)), .val (.int (Int32.ofNat q)), .val (.int (Int32.ofNat r)), .val (.ref bv), .val (.ref bs), .val (.int (own_mi p1 p2 p3 p4 n q r)), .val (.ref bo), .val (.int (own_b (decide (¬ r < n))))] [])) (fun t kt => XS.icmpNo X1051.here hx rfl (hb hby at_301) rfl (teq (congrArg own_b (own_law k0 k1 k2 k3 k4 k5 (by omega) (by omega) (by omega) hq (by omega)))).2 kt) ?_
                            refine go (T' := T1051) (g' := (mkF m 305 #[.val (.int p1), .val (.int p2), .val (.int p3), .val (.int p4), .val (.int p5), .val (.int (Int32.ofNat n)), .val (.int (Int32.ofNat st)), .val (.int (Int32.ofNat os)), .val (.int (Int32.ofNat q)), .val (.int (Int32.ofNat r)), .val (.ref bv), .val (.ref bs), .val (.int (own_mi p1 p2 p3 p4 n q r)), .val (.ref bo), .val (.int (own_b (decide (¬ r < n))))] [(.int (1 : Int32))])) (fun t kt => XS.iconst X1051.here hx rfl (hb hby at_304) kt) ?_
                            refine go (T' := T1051) (g' := (mkF m 309 #[.val (.int p1), .val (.int p2), .val (.int p3), .val (.int p4), .val (.int p5), .val (.int (Int32.ofNat n)), .val (.int (Int32.ofNat st)), .val (.int (Int32.ofNat os)), .val (.int (Int32.ofNat q)), .val (.int (Int32.ofNat r)), .val (.ref bv), .val (.ref bs), .val (.int (own_mi p1 p2 p3 p4 n q r)), .val (.ref bo), .val (.int (own_b (decide (¬ r < n))))] [(.int (1 : Int32))])) (fun t kt => XS.goto X1051.here hx rfl (pc0 := 305) (pc' := 309) rfl (hb hby at_305) (by decide) (by decide) kt) ?_
                            refine goRetN X1051 hx hlk (t := .boolean) Bd.returns (by simp) (hb hby at_309) ?_ (by decide) (by decide)
                            rw [e1051]
                            exact ⟨rfl, N1051⟩
                        refine go (T' := Tj1046) (g' := (mkF m 258 #[.val (.int p1), .val (.int p2), .val (.int p3), .val (.int p4), .val (.int p5), .val (.int (Int32.ofNat n)), .val (.int (Int32.ofNat st)), .val (.int (Int32.ofNat os)), .val (.int (Int32.ofNat q)), .val (.int (Int32.ofNat r)), .val (.ref bv), .val (.ref bs), .val (.int (own_mi p1 p2 p3 p4 n q r)), .val (.ref bo), .unset] [(.int (Int32.ofNat r))])) (fun t kt => XS.iload Xj1046.here hx rfl (hb hby at_256) rfl kt) ?_
                        refine go (T' := Tj1046) (g' := (mkF m 260 #[.val (.int p1), .val (.int p2), .val (.int p3), .val (.int p4), .val (.int p5), .val (.int (Int32.ofNat n)), .val (.int (Int32.ofNat st)), .val (.int (Int32.ofNat os)), .val (.int (Int32.ofNat q)), .val (.int (Int32.ofNat r)), .val (.ref bv), .val (.ref bs), .val (.int (own_mi p1 p2 p3 p4 n q r)), .val (.ref bo), .unset] [(.int (Int32.ofNat n)), (.int (Int32.ofNat r))])) (fun t kt => XS.iload Xj1046.here hx rfl (hb hby at_258) rfl kt) ?_
                        by_cases hk4 : (Int32.ofNat r) < (Int32.ofNat n)
                        · refine go (T' := Tj1046) (g' := (mkF m 263 #[.val (.int p1), .val (.int p2), .val (.int p3), .val (.int p4), .val (.int p5), .val (.int (Int32.ofNat n)), .val (.int (Int32.ofNat st)), .val (.int (Int32.ofNat os)), .val (.int (Int32.ofNat q)), .val (.int (Int32.ofNat r)), .val (.ref bv), .val (.ref bs), .val (.int (own_mi p1 p2 p3 p4 n q r)), .val (.ref bo), .unset] [])) (fun t kt => XS.icmpNo Xj1046.here hx rfl (hb hby at_260) rfl (tlt hk4).2.1 kt) ?_
                          have kk : r < n := (nn_lt (by omega) (by omega)).mp hk4
                          refine go (T' := Tj1046) (g' := (mkF m 265 #[.val (.int p1), .val (.int p2), .val (.int p3), .val (.int p4), .val (.int p5), .val (.int (Int32.ofNat n)), .val (.int (Int32.ofNat st)), .val (.int (Int32.ofNat os)), .val (.int (Int32.ofNat q)), .val (.int (Int32.ofNat r)), .val (.ref bv), .val (.ref bs), .val (.int (own_mi p1 p2 p3 p4 n q r)), .val (.ref bo), .unset] [(.ref bo)])) (fun t kt => XS.aload Xj1046.here hx rfl (hb hby at_263) rfl rfl kt) ?_
                          refine go (T' := Tj1046) (g' := (mkF m 267 #[.val (.int p1), .val (.int p2), .val (.int p3), .val (.int p4), .val (.int p5), .val (.int (Int32.ofNat n)), .val (.int (Int32.ofNat st)), .val (.int (Int32.ofNat os)), .val (.int (Int32.ofNat q)), .val (.int (Int32.ofNat r)), .val (.ref bv), .val (.ref bs), .val (.int (own_mi p1 p2 p3 p4 n q r)), .val (.ref bo), .unset] [(.int (Int32.ofNat os)), (.ref bo)])) (fun t kt => XS.iload Xj1046.here hx rfl (hb hby at_265) rfl kt) ?_
                          refine go (T' := Tj1046) (g' := (mkF m 269 #[.val (.int p1), .val (.int p2), .val (.int p3), .val (.int p4), .val (.int p5), .val (.int (Int32.ofNat n)), .val (.int (Int32.ofNat st)), .val (.int (Int32.ofNat os)), .val (.int (Int32.ofNat q)), .val (.int (Int32.ofNat r)), .val (.ref bv), .val (.ref bs), .val (.int (own_mi p1 p2 p3 p4 n q r)), .val (.ref bo), .unset] [(.int (Int32.ofNat r)), (.int (Int32.ofNat os)), (.ref bo)])) (fun t kt => XS.iload Xj1046.here hx rfl (hb hby at_267) rfl kt) ?_
                          refine go (T' := Tj1046) (g' := (mkF m 270 #[.val (.int p1), .val (.int p2), .val (.int p3), .val (.int p4), .val (.int p5), .val (.int (Int32.ofNat n)), .val (.int (Int32.ofNat st)), .val (.int (Int32.ofNat os)), .val (.int (Int32.ofNat q)), .val (.int (Int32.ofNat r)), .val (.ref bv), .val (.ref bs), .val (.int (own_mi p1 p2 p3 p4 n q r)), .val (.ref bo), .unset] [(.int ((Int32.ofNat os) + (Int32.ofNat r))), (.ref bo)])) (fun t kt => XS.iadd Xj1046.here hx rfl (hb hby at_269) rfl kt) ?_
                          refine go (T' := Tj1046) (g' := (mkF m 271 #[.val (.int p1), .val (.int p2), .val (.int p3), .val (.int p4), .val (.int p5), .val (.int (Int32.ofNat n)), .val (.int (Int32.ofNat st)), .val (.int (Int32.ofNat os)), .val (.int (Int32.ofNat q)), .val (.int (Int32.ofNat r)), .val (.ref bv), .val (.ref bs), .val (.int (own_mi p1 p2 p3 p4 n q r)), .val (.ref bo), .unset] [(.int p4), (.int ((Int32.ofNat os) + (Int32.ofNat r))), (.ref bo)])) (fun t kt => XS.iloadN Xj1046.here hx rfl (hb hby at_270) rfl kt) ?_
                          refine goEq (g' := (mkF m 271 #[.val (.int p1), .val (.int p2), .val (.int p3), .val (.int p4), .val (.int p5), .val (.int (Int32.ofNat n)), .val (.int (Int32.ofNat st)), .val (.int (Int32.ofNat os)), .val (.int (Int32.ofNat q)), .val (.int (Int32.ofNat r)), .val (.ref bv), .val (.ref bs), .val (.int (own_mi p1 p2 p3 p4 n q r)), .val (.ref bo), .unset] [(.int p4), (.int (Int32.ofNat (os + r))), (.ref bo)])) (by rw [nn_add]) ?_
                          obtain ⟨T1050, h1050, X1050, e1050, W1050, V1050, st1050⟩ := own_stI Xj1046 hx hZ ej1046 fj1046_2 (j := (Int32.ofNat (os + r))) ⟨nn_neg (by omega), (nn_lt (j := 4) (by omega) (by omega)).mpr (by omega)⟩ (g := (mkF m 271 #[.val (.int p1), .val (.int p2), .val (.int p3), .val (.int p4), .val (.int p5), .val (.int (Int32.ofNat n)), .val (.int (Int32.ofNat st)), .val (.int (Int32.ofNat os)), .val (.int (Int32.ofNat q)), .val (.int (Int32.ofNat r)), .val (.ref bv), .val (.ref bs), .val (.int (own_mi p1 p2 p3 p4 n q r)), .val (.ref bo), .unset] [(.int p4), (.int (Int32.ofNat (os + r))), (.ref bo)])) rfl rfl (hb hby at_271)
                          have z1050 : n0 ≤ h1050.size := Nat.le_trans zj1046 (Keep.of_wr W1050).1
                          have fA_bv_1050 : Aw Z h1050 bv .int (3 : Int32) (fun i => .int (own_v p1 p2 p3 i)) := fj1046_0.other W1050 ne_bv_bo
                          have fA_bs_1050 : Aw Z h1050 bs .int (4 : Int32) (fun i => .int (own_sq p1 p2 p3 p4 st i)) := fj1046_1.other W1050 ne_bs_bo
                          have N1050 := Fr.snoc X1050 Nj1046 g_bo
                          refine go (T' := T1050) (g' := (mkF m 272 #[.val (.int p1), .val (.int p2), .val (.int p3), .val (.int p4), .val (.int p5), .val (.int (Int32.ofNat n)), .val (.int (Int32.ofNat st)), .val (.int (Int32.ofNat os)), .val (.int (Int32.ofNat q)), .val (.int (Int32.ofNat r)), .val (.ref bv), .val (.ref bs), .val (.int (own_mi p1 p2 p3 p4 n q r)), .val (.ref bo), .unset] [])) st1050 ?_
                          have Vq4 : Aw Z h1050 bo .int (4 : Int32) (fun i => .int (own_o4 p1 p2 p3 p4 n q r os i)) := V1050.congr (fun i _ => by rw [own_upd (by omega)]; show Value.int (if _ ∧ i = os + r then _ else _) = _; by_cases hi : i = (os + r) <;> simp [hi, kk])
                          exact j272 _ _ _  (X1050.more (by decide) (by decide)) e1050 N1050 z1050 fA_bv_1050 fA_bs_1050 Vq4 
                        · refine go (T' := Tj1046) (g' := (mkF m 272 #[.val (.int p1), .val (.int p2), .val (.int p3), .val (.int p4), .val (.int p5), .val (.int (Int32.ofNat n)), .val (.int (Int32.ofNat st)), .val (.int (Int32.ofNat os)), .val (.int (Int32.ofNat q)), .val (.int (Int32.ofNat r)), .val (.ref bv), .val (.ref bs), .val (.int (own_mi p1 p2 p3 p4 n q r)), .val (.ref bo), .unset] [])) (fun t kt => XS.icmpYes Xj1046.here hx rfl (pc0 := 260) (pc' := 272) rfl (hb hby at_260) rfl (flt hk4).2.1 (by decide) (by decide) kt) ?_
                          have kk : ¬ r < n := fun z => hk4 ((nn_lt (by omega) (by omega)).mpr z)
                          have Vq4 : Aw Z hj1046 bo .int (4 : Int32) (fun i => .int (own_o4 p1 p2 p3 p4 n q r os i)) := fj1046_2.congr (fun i _ => by show Value.int (if _ ∧ _ then _ else _) = _; simp [kk])
                          exact j272 _ _ _  (Xj1046.more (by decide) (by decide)) ej1046 Nj1046 zj1046 fj1046_0 fj1046_1 Vq4 
                      refine go (T' := Tj1043) (g' := (mkF m 234 #[.val (.int p1), .val (.int p2), .val (.int p3), .val (.int p4), .val (.int p5), .val (.int (Int32.ofNat n)), .val (.int (Int32.ofNat st)), .val (.int (Int32.ofNat os)), .val (.int (Int32.ofNat q)), .val (.int (Int32.ofNat r)), .val (.ref bv), .val (.ref bs), .val (.int (own_mi p1 p2 p3 p4 n q r)), .val (.ref bo), .unset] [(.int (Int32.ofNat n))])) (fun t kt => XS.iload Xj1043.here hx rfl (hb hby at_232) rfl kt) ?_
                      refine go (T' := Tj1043) (g' := (mkF m 235 #[.val (.int p1), .val (.int p2), .val (.int p3), .val (.int p4), .val (.int p5), .val (.int (Int32.ofNat n)), .val (.int (Int32.ofNat st)), .val (.int (Int32.ofNat os)), .val (.int (Int32.ofNat q)), .val (.int (Int32.ofNat r)), .val (.ref bv), .val (.ref bs), .val (.int (own_mi p1 p2 p3 p4 n q r)), .val (.ref bo), .unset] [(.int (2 : Int32)), (.int (Int32.ofNat n))])) (fun t kt => XS.iconst Xj1043.here hx rfl (hb hby at_234) kt) ?_
                      by_cases hk3 : (2 : Int32) < (Int32.ofNat n)
                      · refine go (T' := Tj1043) (g' := (mkF m 238 #[.val (.int p1), .val (.int p2), .val (.int p3), .val (.int p4), .val (.int p5), .val (.int (Int32.ofNat n)), .val (.int (Int32.ofNat st)), .val (.int (Int32.ofNat os)), .val (.int (Int32.ofNat q)), .val (.int (Int32.ofNat r)), .val (.ref bv), .val (.ref bs), .val (.int (own_mi p1 p2 p3 p4 n q r)), .val (.ref bo), .unset] [])) (fun t kt => XS.icmpNo Xj1043.here hx rfl (hb hby at_235) rfl (tlt hk3).2.2.2 kt) ?_
                        have kk : 2 < n := (nn_lt (i := 2) (by omega) (by omega)).mp hk3
                        refine go (T' := Tj1043) (g' := (mkF m 240 #[.val (.int p1), .val (.int p2), .val (.int p3), .val (.int p4), .val (.int p5), .val (.int (Int32.ofNat n)), .val (.int (Int32.ofNat st)), .val (.int (Int32.ofNat os)), .val (.int (Int32.ofNat q)), .val (.int (Int32.ofNat r)), .val (.ref bv), .val (.ref bs), .val (.int (own_mi p1 p2 p3 p4 n q r)), .val (.ref bo), .unset] [(.ref bo)])) (fun t kt => XS.aload Xj1043.here hx rfl (hb hby at_238) rfl rfl kt) ?_
                        refine go (T' := Tj1043) (g' := (mkF m 242 #[.val (.int p1), .val (.int p2), .val (.int p3), .val (.int p4), .val (.int p5), .val (.int (Int32.ofNat n)), .val (.int (Int32.ofNat st)), .val (.int (Int32.ofNat os)), .val (.int (Int32.ofNat q)), .val (.int (Int32.ofNat r)), .val (.ref bv), .val (.ref bs), .val (.int (own_mi p1 p2 p3 p4 n q r)), .val (.ref bo), .unset] [(.int (Int32.ofNat os)), (.ref bo)])) (fun t kt => XS.iload Xj1043.here hx rfl (hb hby at_240) rfl kt) ?_
                        refine go (T' := Tj1043) (g' := (mkF m 243 #[.val (.int p1), .val (.int p2), .val (.int p3), .val (.int p4), .val (.int p5), .val (.int (Int32.ofNat n)), .val (.int (Int32.ofNat st)), .val (.int (Int32.ofNat os)), .val (.int (Int32.ofNat q)), .val (.int (Int32.ofNat r)), .val (.ref bv), .val (.ref bs), .val (.int (own_mi p1 p2 p3 p4 n q r)), .val (.ref bo), .unset] [(.int (2 : Int32)), (.int (Int32.ofNat os)), (.ref bo)])) (fun t kt => XS.iconst Xj1043.here hx rfl (hb hby at_242) kt) ?_
                        refine go (T' := Tj1043) (g' := (mkF m 244 #[.val (.int p1), .val (.int p2), .val (.int p3), .val (.int p4), .val (.int p5), .val (.int (Int32.ofNat n)), .val (.int (Int32.ofNat st)), .val (.int (Int32.ofNat os)), .val (.int (Int32.ofNat q)), .val (.int (Int32.ofNat r)), .val (.ref bv), .val (.ref bs), .val (.int (own_mi p1 p2 p3 p4 n q r)), .val (.ref bo), .unset] [(.int ((Int32.ofNat os) + (2 : Int32))), (.ref bo)])) (fun t kt => XS.iadd Xj1043.here hx rfl (hb hby at_243) rfl kt) ?_
                        refine go (T' := Tj1043) (g' := (mkF m 246 #[.val (.int p1), .val (.int p2), .val (.int p3), .val (.int p4), .val (.int p5), .val (.int (Int32.ofNat n)), .val (.int (Int32.ofNat st)), .val (.int (Int32.ofNat os)), .val (.int (Int32.ofNat q)), .val (.int (Int32.ofNat r)), .val (.ref bv), .val (.ref bs), .val (.int (own_mi p1 p2 p3 p4 n q r)), .val (.ref bo), .unset] [(.ref bv), (.int ((Int32.ofNat os) + (2 : Int32))), (.ref bo)])) (fun t kt => XS.aload Xj1043.here hx rfl (hb hby at_244) rfl rfl kt) ?_
                        refine go (T' := Tj1043) (g' := (mkF m 248 #[.val (.int p1), .val (.int p2), .val (.int p3), .val (.int p4), .val (.int p5), .val (.int (Int32.ofNat n)), .val (.int (Int32.ofNat st)), .val (.int (Int32.ofNat os)), .val (.int (Int32.ofNat q)), .val (.int (Int32.ofNat r)), .val (.ref bv), .val (.ref bs), .val (.int (own_mi p1 p2 p3 p4 n q r)), .val (.ref bo), .unset] [(.int (Int32.ofNat n)), (.ref bv), (.int ((Int32.ofNat os) + (2 : Int32))), (.ref bo)])) (fun t kt => XS.iload Xj1043.here hx rfl (hb hby at_246) rfl kt) ?_
                        refine go (T' := Tj1043) (g' := (mkF m 250 #[.val (.int p1), .val (.int p2), .val (.int p3), .val (.int p4), .val (.int p5), .val (.int (Int32.ofNat n)), .val (.int (Int32.ofNat st)), .val (.int (Int32.ofNat os)), .val (.int (Int32.ofNat q)), .val (.int (Int32.ofNat r)), .val (.ref bv), .val (.ref bs), .val (.int (own_mi p1 p2 p3 p4 n q r)), .val (.ref bo), .unset] [(.int (Int32.ofNat q)), (.int (Int32.ofNat n)), (.ref bv), (.int ((Int32.ofNat os) + (2 : Int32))), (.ref bo)])) (fun t kt => XS.iload Xj1043.here hx rfl (hb hby at_248) rfl kt) ?_
                        refine go (T' := Tj1043) (g' := (mkF m 251 #[.val (.int p1), .val (.int p2), .val (.int p3), .val (.int p4), .val (.int p5), .val (.int (Int32.ofNat n)), .val (.int (Int32.ofNat st)), .val (.int (Int32.ofNat os)), .val (.int (Int32.ofNat q)), .val (.int (Int32.ofNat r)), .val (.ref bv), .val (.ref bs), .val (.int (own_mi p1 p2 p3 p4 n q r)), .val (.ref bo), .unset] [(.int (2 : Int32)), (.int (Int32.ofNat q)), (.int (Int32.ofNat n)), (.ref bv), (.int ((Int32.ofNat os) + (2 : Int32))), (.ref bo)])) (fun t kt => XS.iconst Xj1043.here hx rfl (hb hby at_250) kt) ?_
                        refine goEq (g' := (mkF m 251 #[.val (.int p1), .val (.int p2), .val (.int p3), .val (.int p4), .val (.int p5), .val (.int (Int32.ofNat n)), .val (.int (Int32.ofNat st)), .val (.int (Int32.ofNat os)), .val (.int (Int32.ofNat q)), .val (.int (Int32.ofNat r)), .val (.ref bv), .val (.ref bs), .val (.int (own_mi p1 p2 p3 p4 n q r)), .val (.ref bo), .unset] [(.int (2 : Int32)), (.int (Int32.ofNat q)), (.int (Int32.ofNat n)), (.ref bv), (.int (Int32.ofNat (os + 2))), (.ref bo)])) (by rw [show Int32.ofNat os + (2 : Int32) = Int32.ofNat (os + 2) from nn_add os 2]) ?_
                        obtain ⟨_, _, ⟨T1047, L1047, k1047, n1047⟩, -, X1047, ⟨Lc1047, hQ1047, l1047, y1047, z1047⟩, st1047⟩ := Jvm.LawKit.callS Xj1043 hx (y := (⟨"com/example/damarium/damarium/position/MoveSameSquaresPinLaw", "pos", "(III)I"⟩ : MethodName)) hown (mvT hZ (hw _ (List.mem_of_getElem? (i := 5) rfl))) (mvT hZ (hw _ (List.mem_of_getElem? (i := 6) rfl))) (mvT hZ (hw _ (List.mem_of_getElem? (i := 7) rfl))) (mvT hZ (hw _ (List.mem_of_getElem? (i := 8) rfl))) (by decide) (backOf (W := 3) (rm2 l Z a0 hw [] (Int32.ofNat n) (Int32.ofNat q) (2 : Int32) n q 2 hj1043 n0 zj1043 rfl rfl rfl (by omega) hq kk) hZ (hw _ (List.mem_of_getElem? (i := 8) rfl)) (hw _ (List.mem_of_getElem? (i := 7) rfl)) (by decide) (by decide)) (g := (mkF m 251 #[.val (.int p1), .val (.int p2), .val (.int p3), .val (.int p4), .val (.int p5), .val (.int (Int32.ofNat n)), .val (.int (Int32.ofNat st)), .val (.int (Int32.ofNat os)), .val (.int (Int32.ofNat q)), .val (.int (Int32.ofNat r)), .val (.ref bv), .val (.ref bs), .val (.int (own_mi p1 p2 p3 p4 n q r)), .val (.ref bo), .unset] [(.int (2 : Int32)), (.int (Int32.ofNat q)), (.int (Int32.ofNat n)), (.ref bv), (.int (Int32.ofNat (os + 2))), (.ref bo)])) rfl (by rw [hml]; rfl) (argsL := [(.int (Int32.ofNat n)), (.int (Int32.ofNat q)), (.int (2 : Int32))]) (rest := [(.ref bv), (.int (Int32.ofNat (os + 2))), (.ref bo)]) (lenOf pd_0 rfl) rfl (by show 2 * 0 + _ ≤ _; exact Nat.le_of_eq rfl) (hb hby at_251) (fun _ _ => ⟨rfl, ej1043, (by decide : 6 + 1 ≤ _), (by decide : 65 + 18 ≤ _)⟩)
                        dsimp only [Pt.U, Pt.locs, Pt.cells, Pt.slots] at X1047 l1047 y1047 z1047 st1047 hQ1047
                        subst l1047 y1047 z1047
                        obtain ⟨rfl, N1047q, K1047⟩ := hQ1047
                        have N1047 := Fr.app Nj1043 N1047q
                        refine go (T' := T1047) (g' := (mkF m 254 #[.val (.int p1), .val (.int p2), .val (.int p3), .val (.int p4), .val (.int p5), .val (.int (Int32.ofNat n)), .val (.int (Int32.ofNat st)), .val (.int (Int32.ofNat os)), .val (.int (Int32.ofNat q)), .val (.int (Int32.ofNat r)), .val (.ref bv), .val (.ref bs), .val (.int (own_mi p1 p2 p3 p4 n q r)), .val (.ref bo), .unset] [(.int (Int32.ofNat (own_pos n q 2))), (.ref bv), (.int (Int32.ofNat (os + 2))), (.ref bo)])) st1047 ?_
                        have z1047 : n0 ≤ T1047.heap.size := Nat.le_trans zj1043 K1047.1
                        have fA_bv_1047 : Aw Z T1047.heap bv .int (3 : Int32) (fun i => .int (own_v p1 p2 p3 i)) := fj1043_0.keep K1047 nin0
                        have fA_bs_1047 : Aw Z T1047.heap bs .int (4 : Int32) (fun i => .int (own_sq p1 p2 p3 p4 st i)) := fj1043_1.keep K1047 nin0
                        have fA_bo_1047 : Aw Z T1047.heap bo .int (4 : Int32) (fun i => .int (own_o2 p1 p2 p3 p4 n q r os i)) := fj1043_2.keep K1047 nin0
                        have hp1047 : own_pos n q 2 < 3 := own_poslt (by omega) hq kk
                        refine go (T' := T1047) (g' := (mkF m 255 #[.val (.int p1), .val (.int p2), .val (.int p3), .val (.int p4), .val (.int p5), .val (.int (Int32.ofNat n)), .val (.int (Int32.ofNat st)), .val (.int (Int32.ofNat os)), .val (.int (Int32.ofNat q)), .val (.int (Int32.ofNat r)), .val (.ref bv), .val (.ref bs), .val (.int (own_mi p1 p2 p3 p4 n q r)), .val (.ref bo), .unset] [(.int (own_v p1 p2 p3 (own_pos n q 2))), (.int (Int32.ofNat (os + 2))), (.ref bo)])) (fun t kt => own_ldI X1047 hx hZ rfl fA_bv_1047 (j := (Int32.ofNat (own_pos n q 2))) ⟨nn_neg (by omega), (nn_lt (j := 3) (by omega) (by omega)).mpr (by omega)⟩ (v := (.int (own_v p1 p2 p3 (own_pos n q 2)))) (by show Value.int (own_v p1 p2 p3 _) = _; rw [nn_nat (by omega)]) (g := (mkF m 254 #[.val (.int p1), .val (.int p2), .val (.int p3), .val (.int p4), .val (.int p5), .val (.int (Int32.ofNat n)), .val (.int (Int32.ofNat st)), .val (.int (Int32.ofNat os)), .val (.int (Int32.ofNat q)), .val (.int (Int32.ofNat r)), .val (.ref bv), .val (.ref bs), .val (.int (own_mi p1 p2 p3 p4 n q r)), .val (.ref bo), .unset] [(.int (Int32.ofNat (own_pos n q 2))), (.ref bv), (.int (Int32.ofNat (os + 2))), (.ref bo)])) rfl rfl (hb hby at_254) _ kt) ?_
                        obtain ⟨T1048, h1048, X1048, e1048, W1048, V1048, st1048⟩ := own_stI X1047 hx hZ rfl fA_bo_1047 (j := (Int32.ofNat (os + 2))) ⟨nn_neg (by omega), (nn_lt (j := 4) (by omega) (by omega)).mpr (by omega)⟩ (g := (mkF m 255 #[.val (.int p1), .val (.int p2), .val (.int p3), .val (.int p4), .val (.int p5), .val (.int (Int32.ofNat n)), .val (.int (Int32.ofNat st)), .val (.int (Int32.ofNat os)), .val (.int (Int32.ofNat q)), .val (.int (Int32.ofNat r)), .val (.ref bv), .val (.ref bs), .val (.int (own_mi p1 p2 p3 p4 n q r)), .val (.ref bo), .unset] [(.int (own_v p1 p2 p3 (own_pos n q 2))), (.int (Int32.ofNat (os + 2))), (.ref bo)])) rfl rfl (hb hby at_255)
                        have z1048 : n0 ≤ h1048.size := Nat.le_trans z1047 (Keep.of_wr W1048).1
                        have fA_bv_1048 : Aw Z h1048 bv .int (3 : Int32) (fun i => .int (own_v p1 p2 p3 i)) := fA_bv_1047.other W1048 ne_bv_bo
                        have fA_bs_1048 : Aw Z h1048 bs .int (4 : Int32) (fun i => .int (own_sq p1 p2 p3 p4 st i)) := fA_bs_1047.other W1048 ne_bs_bo
                        have N1048 := Fr.snoc X1048 N1047 g_bo
                        refine go (T' := T1048) (g' := (mkF m 256 #[.val (.int p1), .val (.int p2), .val (.int p3), .val (.int p4), .val (.int p5), .val (.int (Int32.ofNat n)), .val (.int (Int32.ofNat st)), .val (.int (Int32.ofNat os)), .val (.int (Int32.ofNat q)), .val (.int (Int32.ofNat r)), .val (.ref bv), .val (.ref bs), .val (.int (own_mi p1 p2 p3 p4 n q r)), .val (.ref bo), .unset] [])) st1048 ?_
                        have Vq3 : Aw Z h1048 bo .int (4 : Int32) (fun i => .int (own_o3 p1 p2 p3 p4 n q r os i)) := V1048.congr (fun i _ => by rw [own_upd (by omega)]; show Value.int (if _ ∧ i = os + 2 then _ else _) = _; by_cases hi : i = (os + 2) <;> simp [hi, kk])
                        exact j256 _ _ _  (X1048.more (by decide) (by decide)) e1048 N1048 z1048 fA_bv_1048 fA_bs_1048 Vq3 
                      · refine go (T' := Tj1043) (g' := (mkF m 256 #[.val (.int p1), .val (.int p2), .val (.int p3), .val (.int p4), .val (.int p5), .val (.int (Int32.ofNat n)), .val (.int (Int32.ofNat st)), .val (.int (Int32.ofNat os)), .val (.int (Int32.ofNat q)), .val (.int (Int32.ofNat r)), .val (.ref bv), .val (.ref bs), .val (.int (own_mi p1 p2 p3 p4 n q r)), .val (.ref bo), .unset] [])) (fun t kt => XS.icmpYes Xj1043.here hx rfl (pc0 := 235) (pc' := 256) rfl (hb hby at_235) rfl (flt hk3).2.2.2 (by decide) (by decide) kt) ?_
                        have kk : ¬ 2 < n := fun z => hk3 ((nn_lt (i := 2) (by omega) (by omega)).mpr z)
                        have Vq3 : Aw Z hj1043 bo .int (4 : Int32) (fun i => .int (own_o3 p1 p2 p3 p4 n q r os i)) := fj1043_2.congr (fun i _ => by show Value.int (if _ ∧ _ then _ else _) = _; simp [kk])
                        exact j256 _ _ _  (Xj1043.more (by decide) (by decide)) ej1043 Nj1043 zj1043 fj1043_0 fj1043_1 Vq3 
                    refine go (T' := Tj1040) (g' := (mkF m 210 #[.val (.int p1), .val (.int p2), .val (.int p3), .val (.int p4), .val (.int p5), .val (.int (Int32.ofNat n)), .val (.int (Int32.ofNat st)), .val (.int (Int32.ofNat os)), .val (.int (Int32.ofNat q)), .val (.int (Int32.ofNat r)), .val (.ref bv), .val (.ref bs), .val (.int (own_mi p1 p2 p3 p4 n q r)), .val (.ref bo), .unset] [(.int (Int32.ofNat n))])) (fun t kt => XS.iload Xj1040.here hx rfl (hb hby at_208) rfl kt) ?_
                    refine go (T' := Tj1040) (g' := (mkF m 211 #[.val (.int p1), .val (.int p2), .val (.int p3), .val (.int p4), .val (.int p5), .val (.int (Int32.ofNat n)), .val (.int (Int32.ofNat st)), .val (.int (Int32.ofNat os)), .val (.int (Int32.ofNat q)), .val (.int (Int32.ofNat r)), .val (.ref bv), .val (.ref bs), .val (.int (own_mi p1 p2 p3 p4 n q r)), .val (.ref bo), .unset] [(.int (1 : Int32)), (.int (Int32.ofNat n))])) (fun t kt => XS.iconst Xj1040.here hx rfl (hb hby at_210) kt) ?_
                    by_cases hk2 : (1 : Int32) < (Int32.ofNat n)
                    · refine go (T' := Tj1040) (g' := (mkF m 214 #[.val (.int p1), .val (.int p2), .val (.int p3), .val (.int p4), .val (.int p5), .val (.int (Int32.ofNat n)), .val (.int (Int32.ofNat st)), .val (.int (Int32.ofNat os)), .val (.int (Int32.ofNat q)), .val (.int (Int32.ofNat r)), .val (.ref bv), .val (.ref bs), .val (.int (own_mi p1 p2 p3 p4 n q r)), .val (.ref bo), .unset] [])) (fun t kt => XS.icmpNo Xj1040.here hx rfl (hb hby at_211) rfl (tlt hk2).2.2.2 kt) ?_
                      have kk : 1 < n := (nn_lt (i := 1) (by omega) (by omega)).mp hk2
                      refine go (T' := Tj1040) (g' := (mkF m 216 #[.val (.int p1), .val (.int p2), .val (.int p3), .val (.int p4), .val (.int p5), .val (.int (Int32.ofNat n)), .val (.int (Int32.ofNat st)), .val (.int (Int32.ofNat os)), .val (.int (Int32.ofNat q)), .val (.int (Int32.ofNat r)), .val (.ref bv), .val (.ref bs), .val (.int (own_mi p1 p2 p3 p4 n q r)), .val (.ref bo), .unset] [(.ref bo)])) (fun t kt => XS.aload Xj1040.here hx rfl (hb hby at_214) rfl rfl kt) ?_
                      refine go (T' := Tj1040) (g' := (mkF m 218 #[.val (.int p1), .val (.int p2), .val (.int p3), .val (.int p4), .val (.int p5), .val (.int (Int32.ofNat n)), .val (.int (Int32.ofNat st)), .val (.int (Int32.ofNat os)), .val (.int (Int32.ofNat q)), .val (.int (Int32.ofNat r)), .val (.ref bv), .val (.ref bs), .val (.int (own_mi p1 p2 p3 p4 n q r)), .val (.ref bo), .unset] [(.int (Int32.ofNat os)), (.ref bo)])) (fun t kt => XS.iload Xj1040.here hx rfl (hb hby at_216) rfl kt) ?_
                      refine go (T' := Tj1040) (g' := (mkF m 219 #[.val (.int p1), .val (.int p2), .val (.int p3), .val (.int p4), .val (.int p5), .val (.int (Int32.ofNat n)), .val (.int (Int32.ofNat st)), .val (.int (Int32.ofNat os)), .val (.int (Int32.ofNat q)), .val (.int (Int32.ofNat r)), .val (.ref bv), .val (.ref bs), .val (.int (own_mi p1 p2 p3 p4 n q r)), .val (.ref bo), .unset] [(.int (1 : Int32)), (.int (Int32.ofNat os)), (.ref bo)])) (fun t kt => XS.iconst Xj1040.here hx rfl (hb hby at_218) kt) ?_
                      refine go (T' := Tj1040) (g' := (mkF m 220 #[.val (.int p1), .val (.int p2), .val (.int p3), .val (.int p4), .val (.int p5), .val (.int (Int32.ofNat n)), .val (.int (Int32.ofNat st)), .val (.int (Int32.ofNat os)), .val (.int (Int32.ofNat q)), .val (.int (Int32.ofNat r)), .val (.ref bv), .val (.ref bs), .val (.int (own_mi p1 p2 p3 p4 n q r)), .val (.ref bo), .unset] [(.int ((Int32.ofNat os) + (1 : Int32))), (.ref bo)])) (fun t kt => XS.iadd Xj1040.here hx rfl (hb hby at_219) rfl kt) ?_
                      refine go (T' := Tj1040) (g' := (mkF m 222 #[.val (.int p1), .val (.int p2), .val (.int p3), .val (.int p4), .val (.int p5), .val (.int (Int32.ofNat n)), .val (.int (Int32.ofNat st)), .val (.int (Int32.ofNat os)), .val (.int (Int32.ofNat q)), .val (.int (Int32.ofNat r)), .val (.ref bv), .val (.ref bs), .val (.int (own_mi p1 p2 p3 p4 n q r)), .val (.ref bo), .unset] [(.ref bv), (.int ((Int32.ofNat os) + (1 : Int32))), (.ref bo)])) (fun t kt => XS.aload Xj1040.here hx rfl (hb hby at_220) rfl rfl kt) ?_
                      refine go (T' := Tj1040) (g' := (mkF m 224 #[.val (.int p1), .val (.int p2), .val (.int p3), .val (.int p4), .val (.int p5), .val (.int (Int32.ofNat n)), .val (.int (Int32.ofNat st)), .val (.int (Int32.ofNat os)), .val (.int (Int32.ofNat q)), .val (.int (Int32.ofNat r)), .val (.ref bv), .val (.ref bs), .val (.int (own_mi p1 p2 p3 p4 n q r)), .val (.ref bo), .unset] [(.int (Int32.ofNat n)), (.ref bv), (.int ((Int32.ofNat os) + (1 : Int32))), (.ref bo)])) (fun t kt => XS.iload Xj1040.here hx rfl (hb hby at_222) rfl kt) ?_
                      refine go (T' := Tj1040) (g' := (mkF m 226 #[.val (.int p1), .val (.int p2), .val (.int p3), .val (.int p4), .val (.int p5), .val (.int (Int32.ofNat n)), .val (.int (Int32.ofNat st)), .val (.int (Int32.ofNat os)), .val (.int (Int32.ofNat q)), .val (.int (Int32.ofNat r)), .val (.ref bv), .val (.ref bs), .val (.int (own_mi p1 p2 p3 p4 n q r)), .val (.ref bo), .unset] [(.int (Int32.ofNat q)), (.int (Int32.ofNat n)), (.ref bv), (.int ((Int32.ofNat os) + (1 : Int32))), (.ref bo)])) (fun t kt => XS.iload Xj1040.here hx rfl (hb hby at_224) rfl kt) ?_
                      refine go (T' := Tj1040) (g' := (mkF m 227 #[.val (.int p1), .val (.int p2), .val (.int p3), .val (.int p4), .val (.int p5), .val (.int (Int32.ofNat n)), .val (.int (Int32.ofNat st)), .val (.int (Int32.ofNat os)), .val (.int (Int32.ofNat q)), .val (.int (Int32.ofNat r)), .val (.ref bv), .val (.ref bs), .val (.int (own_mi p1 p2 p3 p4 n q r)), .val (.ref bo), .unset] [(.int (1 : Int32)), (.int (Int32.ofNat q)), (.int (Int32.ofNat n)), (.ref bv), (.int ((Int32.ofNat os) + (1 : Int32))), (.ref bo)])) (fun t kt => XS.iconst Xj1040.here hx rfl (hb hby at_226) kt) ?_
                      refine goEq (g' := (mkF m 227 #[.val (.int p1), .val (.int p2), .val (.int p3), .val (.int p4), .val (.int p5), .val (.int (Int32.ofNat n)), .val (.int (Int32.ofNat st)), .val (.int (Int32.ofNat os)), .val (.int (Int32.ofNat q)), .val (.int (Int32.ofNat r)), .val (.ref bv), .val (.ref bs), .val (.int (own_mi p1 p2 p3 p4 n q r)), .val (.ref bo), .unset] [(.int (1 : Int32)), (.int (Int32.ofNat q)), (.int (Int32.ofNat n)), (.ref bv), (.int (Int32.ofNat (os + 1))), (.ref bo)])) (by rw [show Int32.ofNat os + (1 : Int32) = Int32.ofNat (os + 1) from nn_add os 1]) ?_
                      obtain ⟨_, _, ⟨T1044, L1044, k1044, n1044⟩, -, X1044, ⟨Lc1044, hQ1044, l1044, y1044, z1044⟩, st1044⟩ := Jvm.LawKit.callS Xj1040 hx (y := (⟨"com/example/damarium/damarium/position/MoveSameSquaresPinLaw", "pos", "(III)I"⟩ : MethodName)) hown (mvT hZ (hw _ (List.mem_of_getElem? (i := 5) rfl))) (mvT hZ (hw _ (List.mem_of_getElem? (i := 6) rfl))) (mvT hZ (hw _ (List.mem_of_getElem? (i := 7) rfl))) (mvT hZ (hw _ (List.mem_of_getElem? (i := 8) rfl))) (by decide) (backOf (W := 3) (rm2 l Z a0 hw [] (Int32.ofNat n) (Int32.ofNat q) (1 : Int32) n q 1 hj1040 n0 zj1040 rfl rfl rfl (by omega) hq kk) hZ (hw _ (List.mem_of_getElem? (i := 8) rfl)) (hw _ (List.mem_of_getElem? (i := 7) rfl)) (by decide) (by decide)) (g := (mkF m 227 #[.val (.int p1), .val (.int p2), .val (.int p3), .val (.int p4), .val (.int p5), .val (.int (Int32.ofNat n)), .val (.int (Int32.ofNat st)), .val (.int (Int32.ofNat os)), .val (.int (Int32.ofNat q)), .val (.int (Int32.ofNat r)), .val (.ref bv), .val (.ref bs), .val (.int (own_mi p1 p2 p3 p4 n q r)), .val (.ref bo), .unset] [(.int (1 : Int32)), (.int (Int32.ofNat q)), (.int (Int32.ofNat n)), (.ref bv), (.int (Int32.ofNat (os + 1))), (.ref bo)])) rfl (by rw [hml]; rfl) (argsL := [(.int (Int32.ofNat n)), (.int (Int32.ofNat q)), (.int (1 : Int32))]) (rest := [(.ref bv), (.int (Int32.ofNat (os + 1))), (.ref bo)]) (lenOf pd_0 rfl) rfl (by show 2 * 0 + _ ≤ _; exact Nat.le_of_eq rfl) (hb hby at_227) (fun _ _ => ⟨rfl, ej1040, (by decide : 5 + 1 ≤ _), (by decide : 47 + 18 ≤ _)⟩)
                      dsimp only [Pt.U, Pt.locs, Pt.cells, Pt.slots] at X1044 l1044 y1044 z1044 st1044 hQ1044
                      subst l1044 y1044 z1044
                      obtain ⟨rfl, N1044q, K1044⟩ := hQ1044
                      have N1044 := Fr.app Nj1040 N1044q
                      refine go (T' := T1044) (g' := (mkF m 230 #[.val (.int p1), .val (.int p2), .val (.int p3), .val (.int p4), .val (.int p5), .val (.int (Int32.ofNat n)), .val (.int (Int32.ofNat st)), .val (.int (Int32.ofNat os)), .val (.int (Int32.ofNat q)), .val (.int (Int32.ofNat r)), .val (.ref bv), .val (.ref bs), .val (.int (own_mi p1 p2 p3 p4 n q r)), .val (.ref bo), .unset] [(.int (Int32.ofNat (own_pos n q 1))), (.ref bv), (.int (Int32.ofNat (os + 1))), (.ref bo)])) st1044 ?_
                      have z1044 : n0 ≤ T1044.heap.size := Nat.le_trans zj1040 K1044.1
                      have fA_bv_1044 : Aw Z T1044.heap bv .int (3 : Int32) (fun i => .int (own_v p1 p2 p3 i)) := fj1040_0.keep K1044 nin0
                      have fA_bs_1044 : Aw Z T1044.heap bs .int (4 : Int32) (fun i => .int (own_sq p1 p2 p3 p4 st i)) := fj1040_1.keep K1044 nin0
                      have fA_bo_1044 : Aw Z T1044.heap bo .int (4 : Int32) (fun i => .int (own_o1 p1 p2 p3 p4 n q r os i)) := fj1040_2.keep K1044 nin0
                      have hp1044 : own_pos n q 1 < 3 := own_poslt (by omega) hq kk
                      refine go (T' := T1044) (g' := (mkF m 231 #[.val (.int p1), .val (.int p2), .val (.int p3), .val (.int p4), .val (.int p5), .val (.int (Int32.ofNat n)), .val (.int (Int32.ofNat st)), .val (.int (Int32.ofNat os)), .val (.int (Int32.ofNat q)), .val (.int (Int32.ofNat r)), .val (.ref bv), .val (.ref bs), .val (.int (own_mi p1 p2 p3 p4 n q r)), .val (.ref bo), .unset] [(.int (own_v p1 p2 p3 (own_pos n q 1))), (.int (Int32.ofNat (os + 1))), (.ref bo)])) (fun t kt => own_ldI X1044 hx hZ rfl fA_bv_1044 (j := (Int32.ofNat (own_pos n q 1))) ⟨nn_neg (by omega), (nn_lt (j := 3) (by omega) (by omega)).mpr (by omega)⟩ (v := (.int (own_v p1 p2 p3 (own_pos n q 1)))) (by show Value.int (own_v p1 p2 p3 _) = _; rw [nn_nat (by omega)]) (g := (mkF m 230 #[.val (.int p1), .val (.int p2), .val (.int p3), .val (.int p4), .val (.int p5), .val (.int (Int32.ofNat n)), .val (.int (Int32.ofNat st)), .val (.int (Int32.ofNat os)), .val (.int (Int32.ofNat q)), .val (.int (Int32.ofNat r)), .val (.ref bv), .val (.ref bs), .val (.int (own_mi p1 p2 p3 p4 n q r)), .val (.ref bo), .unset] [(.int (Int32.ofNat (own_pos n q 1))), (.ref bv), (.int (Int32.ofNat (os + 1))), (.ref bo)])) rfl rfl (hb hby at_230) _ kt) ?_
                      obtain ⟨T1045, h1045, X1045, e1045, W1045, V1045, st1045⟩ := own_stI X1044 hx hZ rfl fA_bo_1044 (j := (Int32.ofNat (os + 1))) ⟨nn_neg (by omega), (nn_lt (j := 4) (by omega) (by omega)).mpr (by omega)⟩ (g := (mkF m 231 #[.val (.int p1), .val (.int p2), .val (.int p3), .val (.int p4), .val (.int p5), .val (.int (Int32.ofNat n)), .val (.int (Int32.ofNat st)), .val (.int (Int32.ofNat os)), .val (.int (Int32.ofNat q)), .val (.int (Int32.ofNat r)), .val (.ref bv), .val (.ref bs), .val (.int (own_mi p1 p2 p3 p4 n q r)), .val (.ref bo), .unset] [(.int (own_v p1 p2 p3 (own_pos n q 1))), (.int (Int32.ofNat (os + 1))), (.ref bo)])) rfl rfl (hb hby at_231)
                      have z1045 : n0 ≤ h1045.size := Nat.le_trans z1044 (Keep.of_wr W1045).1
                      have fA_bv_1045 : Aw Z h1045 bv .int (3 : Int32) (fun i => .int (own_v p1 p2 p3 i)) := fA_bv_1044.other W1045 ne_bv_bo
                      have fA_bs_1045 : Aw Z h1045 bs .int (4 : Int32) (fun i => .int (own_sq p1 p2 p3 p4 st i)) := fA_bs_1044.other W1045 ne_bs_bo
                      have N1045 := Fr.snoc X1045 N1044 g_bo
                      refine go (T' := T1045) (g' := (mkF m 232 #[.val (.int p1), .val (.int p2), .val (.int p3), .val (.int p4), .val (.int p5), .val (.int (Int32.ofNat n)), .val (.int (Int32.ofNat st)), .val (.int (Int32.ofNat os)), .val (.int (Int32.ofNat q)), .val (.int (Int32.ofNat r)), .val (.ref bv), .val (.ref bs), .val (.int (own_mi p1 p2 p3 p4 n q r)), .val (.ref bo), .unset] [])) st1045 ?_
                      have Vq2 : Aw Z h1045 bo .int (4 : Int32) (fun i => .int (own_o2 p1 p2 p3 p4 n q r os i)) := V1045.congr (fun i _ => by rw [own_upd (by omega)]; show Value.int (if _ ∧ i = os + 1 then _ else _) = _; by_cases hi : i = (os + 1) <;> simp [hi, kk])
                      exact j232 _ _ _  (X1045.more (by decide) (by decide)) e1045 N1045 z1045 fA_bv_1045 fA_bs_1045 Vq2 
                    · refine go (T' := Tj1040) (g' := (mkF m 232 #[.val (.int p1), .val (.int p2), .val (.int p3), .val (.int p4), .val (.int p5), .val (.int (Int32.ofNat n)), .val (.int (Int32.ofNat st)), .val (.int (Int32.ofNat os)), .val (.int (Int32.ofNat q)), .val (.int (Int32.ofNat r)), .val (.ref bv), .val (.ref bs), .val (.int (own_mi p1 p2 p3 p4 n q r)), .val (.ref bo), .unset] [])) (fun t kt => XS.icmpYes Xj1040.here hx rfl (pc0 := 211) (pc' := 232) rfl (hb hby at_211) rfl (flt hk2).2.2.2 (by decide) (by decide) kt) ?_
                      have kk : ¬ 1 < n := fun z => hk2 ((nn_lt (i := 1) (by omega) (by omega)).mpr z)
                      have Vq2 : Aw Z hj1040 bo .int (4 : Int32) (fun i => .int (own_o2 p1 p2 p3 p4 n q r os i)) := fj1040_2.congr (fun i _ => by show Value.int (if _ ∧ _ then _ else _) = _; simp [kk])
                      exact j232 _ _ _  (Xj1040.more (by decide) (by decide)) ej1040 Nj1040 zj1040 fj1040_0 fj1040_1 Vq2 
                  by_cases hk1 : (0 : Int32) < (Int32.ofNat n)
                  · refine go (T' := T1039) (g' := (mkF m 192 #[.val (.int p1), .val (.int p2), .val (.int p3), .val (.int p4), .val (.int p5), .val (.int (Int32.ofNat n)), .val (.int (Int32.ofNat st)), .val (.int (Int32.ofNat os)), .val (.int (Int32.ofNat q)), .val (.int (Int32.ofNat r)), .val (.ref bv), .val (.ref bs), .val (.int (own_mi p1 p2 p3 p4 n q r)), .val (.ref bo), .unset] [])) (fun t kt => XS.ifNo X1039.here hx rfl (hb hby at_189) rfl ((if0 _ _).trans (tlt hk1).2.2.2) kt) ?_
                    have kk : 0 < n := (nn_lt (i := 0) (by omega) (by omega)).mp hk1
                    refine go (T' := T1039) (g' := (mkF m 194 #[.val (.int p1), .val (.int p2), .val (.int p3), .val (.int p4), .val (.int p5), .val (.int (Int32.ofNat n)), .val (.int (Int32.ofNat st)), .val (.int (Int32.ofNat os)), .val (.int (Int32.ofNat q)), .val (.int (Int32.ofNat r)), .val (.ref bv), .val (.ref bs), .val (.int (own_mi p1 p2 p3 p4 n q r)), .val (.ref bo), .unset] [(.ref bo)])) (fun t kt => XS.aload X1039.here hx rfl (hb hby at_192) rfl rfl kt) ?_
                    refine go (T' := T1039) (g' := (mkF m 196 #[.val (.int p1), .val (.int p2), .val (.int p3), .val (.int p4), .val (.int p5), .val (.int (Int32.ofNat n)), .val (.int (Int32.ofNat st)), .val (.int (Int32.ofNat os)), .val (.int (Int32.ofNat q)), .val (.int (Int32.ofNat r)), .val (.ref bv), .val (.ref bs), .val (.int (own_mi p1 p2 p3 p4 n q r)), .val (.ref bo), .unset] [(.int (Int32.ofNat os)), (.ref bo)])) (fun t kt => XS.iload X1039.here hx rfl (hb hby at_194) rfl kt) ?_
                    refine go (T' := T1039) (g' := (mkF m 198 #[.val (.int p1), .val (.int p2), .val (.int p3), .val (.int p4), .val (.int p5), .val (.int (Int32.ofNat n)), .val (.int (Int32.ofNat st)), .val (.int (Int32.ofNat os)), .val (.int (Int32.ofNat q)), .val (.int (Int32.ofNat r)), .val (.ref bv), .val (.ref bs), .val (.int (own_mi p1 p2 p3 p4 n q r)), .val (.ref bo), .unset] [(.ref bv), (.int (Int32.ofNat os)), (.ref bo)])) (fun t kt => XS.aload X1039.here hx rfl (hb hby at_196) rfl rfl kt) ?_
                    refine go (T' := T1039) (g' := (mkF m 200 #[.val (.int p1), .val (.int p2), .val (.int p3), .val (.int p4), .val (.int p5), .val (.int (Int32.ofNat n)), .val (.int (Int32.ofNat st)), .val (.int (Int32.ofNat os)), .val (.int (Int32.ofNat q)), .val (.int (Int32.ofNat r)), .val (.ref bv), .val (.ref bs), .val (.int (own_mi p1 p2 p3 p4 n q r)), .val (.ref bo), .unset] [(.int (Int32.ofNat n)), (.ref bv), (.int (Int32.ofNat os)), (.ref bo)])) (fun t kt => XS.iload X1039.here hx rfl (hb hby at_198) rfl kt) ?_
                    refine go (T' := T1039) (g' := (mkF m 202 #[.val (.int p1), .val (.int p2), .val (.int p3), .val (.int p4), .val (.int p5), .val (.int (Int32.ofNat n)), .val (.int (Int32.ofNat st)), .val (.int (Int32.ofNat os)), .val (.int (Int32.ofNat q)), .val (.int (Int32.ofNat r)), .val (.ref bv), .val (.ref bs), .val (.int (own_mi p1 p2 p3 p4 n q r)), .val (.ref bo), .unset] [(.int (Int32.ofNat q)), (.int (Int32.ofNat n)), (.ref bv), (.int (Int32.ofNat os)), (.ref bo)])) (fun t kt => XS.iload X1039.here hx rfl (hb hby at_200) rfl kt) ?_
                    refine go (T' := T1039) (g' := (mkF m 203 #[.val (.int p1), .val (.int p2), .val (.int p3), .val (.int p4), .val (.int p5), .val (.int (Int32.ofNat n)), .val (.int (Int32.ofNat st)), .val (.int (Int32.ofNat os)), .val (.int (Int32.ofNat q)), .val (.int (Int32.ofNat r)), .val (.ref bv), .val (.ref bs), .val (.int (own_mi p1 p2 p3 p4 n q r)), .val (.ref bo), .unset] [(.int (0 : Int32)), (.int (Int32.ofNat q)), (.int (Int32.ofNat n)), (.ref bv), (.int (Int32.ofNat os)), (.ref bo)])) (fun t kt => XS.iconst X1039.here hx rfl (hb hby at_202) kt) ?_
                    obtain ⟨_, _, ⟨T1041, L1041, k1041, n1041⟩, -, X1041, ⟨Lc1041, hQ1041, l1041, y1041, z1041⟩, st1041⟩ := Jvm.LawKit.callS X1039 hx (y := (⟨"com/example/damarium/damarium/position/MoveSameSquaresPinLaw", "pos", "(III)I"⟩ : MethodName)) hown (mvT hZ (hw _ (List.mem_of_getElem? (i := 5) rfl))) (mvT hZ (hw _ (List.mem_of_getElem? (i := 6) rfl))) (mvT hZ (hw _ (List.mem_of_getElem? (i := 7) rfl))) (mvT hZ (hw _ (List.mem_of_getElem? (i := 8) rfl))) (by decide) (backOf (W := 3) (rm2 l Z a0 hw [] (Int32.ofNat n) (Int32.ofNat q) (0 : Int32) n q 0 h1039 n0 z1039 rfl rfl rfl (by omega) hq kk) hZ (hw _ (List.mem_of_getElem? (i := 8) rfl)) (hw _ (List.mem_of_getElem? (i := 7) rfl)) (by decide) (by decide)) (g := (mkF m 203 #[.val (.int p1), .val (.int p2), .val (.int p3), .val (.int p4), .val (.int p5), .val (.int (Int32.ofNat n)), .val (.int (Int32.ofNat st)), .val (.int (Int32.ofNat os)), .val (.int (Int32.ofNat q)), .val (.int (Int32.ofNat r)), .val (.ref bv), .val (.ref bs), .val (.int (own_mi p1 p2 p3 p4 n q r)), .val (.ref bo), .unset] [(.int (0 : Int32)), (.int (Int32.ofNat q)), (.int (Int32.ofNat n)), (.ref bv), (.int (Int32.ofNat os)), (.ref bo)])) rfl (by rw [hml]; rfl) (argsL := [(.int (Int32.ofNat n)), (.int (Int32.ofNat q)), (.int (0 : Int32))]) (rest := [(.ref bv), (.int (Int32.ofNat os)), (.ref bo)]) (lenOf pd_0 rfl) rfl (by show 2 * 0 + _ ≤ _; exact Nat.le_of_eq rfl) (hb hby at_203) (fun _ _ => ⟨rfl, e1039, (by decide : 4 + 1 ≤ _), (by decide : 29 + 18 ≤ _)⟩)
                    dsimp only [Pt.U, Pt.locs, Pt.cells, Pt.slots] at X1041 l1041 y1041 z1041 st1041 hQ1041
                    subst l1041 y1041 z1041
                    obtain ⟨rfl, N1041q, K1041⟩ := hQ1041
                    have N1041 := Fr.app N1039 N1041q
                    refine go (T' := T1041) (g' := (mkF m 206 #[.val (.int p1), .val (.int p2), .val (.int p3), .val (.int p4), .val (.int p5), .val (.int (Int32.ofNat n)), .val (.int (Int32.ofNat st)), .val (.int (Int32.ofNat os)), .val (.int (Int32.ofNat q)), .val (.int (Int32.ofNat r)), .val (.ref bv), .val (.ref bs), .val (.int (own_mi p1 p2 p3 p4 n q r)), .val (.ref bo), .unset] [(.int (Int32.ofNat (own_pos n q 0))), (.ref bv), (.int (Int32.ofNat os)), (.ref bo)])) st1041 ?_
                    have z1041 : n0 ≤ T1041.heap.size := Nat.le_trans z1039 K1041.1
                    have fA_bv_1041 : Aw Z T1041.heap bv .int (3 : Int32) (fun i => .int (own_v p1 p2 p3 i)) := fA_bv_1039.keep K1041 nin0
                    have fA_bs_1041 : Aw Z T1041.heap bs .int (4 : Int32) (fun i => .int (own_sq p1 p2 p3 p4 st i)) := fA_bs_1039.keep K1041 nin0
                    have fA_bo_1041 : Aw Z T1041.heap bo .int (4 : Int32) (fun i => .int (own_o0 p1 p2 p3 p4 n q r i)) := Vo.keep K1041 nin0
                    have hp1041 : own_pos n q 0 < 3 := own_poslt (by omega) hq kk
                    refine go (T' := T1041) (g' := (mkF m 207 #[.val (.int p1), .val (.int p2), .val (.int p3), .val (.int p4), .val (.int p5), .val (.int (Int32.ofNat n)), .val (.int (Int32.ofNat st)), .val (.int (Int32.ofNat os)), .val (.int (Int32.ofNat q)), .val (.int (Int32.ofNat r)), .val (.ref bv), .val (.ref bs), .val (.int (own_mi p1 p2 p3 p4 n q r)), .val (.ref bo), .unset] [(.int (own_v p1 p2 p3 (own_pos n q 0))), (.int (Int32.ofNat os)), (.ref bo)])) (fun t kt => own_ldI X1041 hx hZ rfl fA_bv_1041 (j := (Int32.ofNat (own_pos n q 0))) ⟨nn_neg (by omega), (nn_lt (j := 3) (by omega) (by omega)).mpr (by omega)⟩ (v := (.int (own_v p1 p2 p3 (own_pos n q 0)))) (by show Value.int (own_v p1 p2 p3 _) = _; rw [nn_nat (by omega)]) (g := (mkF m 206 #[.val (.int p1), .val (.int p2), .val (.int p3), .val (.int p4), .val (.int p5), .val (.int (Int32.ofNat n)), .val (.int (Int32.ofNat st)), .val (.int (Int32.ofNat os)), .val (.int (Int32.ofNat q)), .val (.int (Int32.ofNat r)), .val (.ref bv), .val (.ref bs), .val (.int (own_mi p1 p2 p3 p4 n q r)), .val (.ref bo), .unset] [(.int (Int32.ofNat (own_pos n q 0))), (.ref bv), (.int (Int32.ofNat os)), (.ref bo)])) rfl rfl (hb hby at_206) _ kt) ?_
                    obtain ⟨T1042, h1042, X1042, e1042, W1042, V1042, st1042⟩ := own_stI X1041 hx hZ rfl fA_bo_1041 (j := (Int32.ofNat os)) ⟨nn_neg (by omega), (nn_lt (j := 4) (by omega) (by omega)).mpr (by omega)⟩ (g := (mkF m 207 #[.val (.int p1), .val (.int p2), .val (.int p3), .val (.int p4), .val (.int p5), .val (.int (Int32.ofNat n)), .val (.int (Int32.ofNat st)), .val (.int (Int32.ofNat os)), .val (.int (Int32.ofNat q)), .val (.int (Int32.ofNat r)), .val (.ref bv), .val (.ref bs), .val (.int (own_mi p1 p2 p3 p4 n q r)), .val (.ref bo), .unset] [(.int (own_v p1 p2 p3 (own_pos n q 0))), (.int (Int32.ofNat os)), (.ref bo)])) rfl rfl (hb hby at_207)
                    have z1042 : n0 ≤ h1042.size := Nat.le_trans z1041 (Keep.of_wr W1042).1
                    have fA_bv_1042 : Aw Z h1042 bv .int (3 : Int32) (fun i => .int (own_v p1 p2 p3 i)) := fA_bv_1041.other W1042 ne_bv_bo
                    have fA_bs_1042 : Aw Z h1042 bs .int (4 : Int32) (fun i => .int (own_sq p1 p2 p3 p4 st i)) := fA_bs_1041.other W1042 ne_bs_bo
                    have N1042 := Fr.snoc X1042 N1041 g_bo
                    refine go (T' := T1042) (g' := (mkF m 208 #[.val (.int p1), .val (.int p2), .val (.int p3), .val (.int p4), .val (.int p5), .val (.int (Int32.ofNat n)), .val (.int (Int32.ofNat st)), .val (.int (Int32.ofNat os)), .val (.int (Int32.ofNat q)), .val (.int (Int32.ofNat r)), .val (.ref bv), .val (.ref bs), .val (.int (own_mi p1 p2 p3 p4 n q r)), .val (.ref bo), .unset] [])) st1042 ?_
                    have Vq1 : Aw Z h1042 bo .int (4 : Int32) (fun i => .int (own_o1 p1 p2 p3 p4 n q r os i)) := V1042.congr (fun i _ => by rw [own_upd (by omega)]; show Value.int (if _ ∧ i = os then _ else _) = _; by_cases hi : i = os <;> simp [hi, kk])
                    exact j208 _ _ _  (X1042.more (by decide) (by decide)) e1042 N1042 z1042 fA_bv_1042 fA_bs_1042 Vq1 
                  · refine go (T' := T1039) (g' := (mkF m 208 #[.val (.int p1), .val (.int p2), .val (.int p3), .val (.int p4), .val (.int p5), .val (.int (Int32.ofNat n)), .val (.int (Int32.ofNat st)), .val (.int (Int32.ofNat os)), .val (.int (Int32.ofNat q)), .val (.int (Int32.ofNat r)), .val (.ref bv), .val (.ref bs), .val (.int (own_mi p1 p2 p3 p4 n q r)), .val (.ref bo), .unset] [])) (fun t kt => XS.ifYes X1039.here hx rfl (pc0 := 189) (pc' := 208) rfl (hb hby at_189) rfl ((if0 _ _).trans (flt hk1).2.2.2) (by decide) (by decide) kt) ?_
                    have kk : ¬ 0 < n := fun z => hk1 ((nn_lt (i := 0) (by omega) (by omega)).mpr z)
                    have Vq1 : Aw Z h1039 bo .int (4 : Int32) (fun i => .int (own_o1 p1 p2 p3 p4 n q r os i)) := Vo.congr (fun i _ => by show Value.int (if _ ∧ _ then _ else _) = _; simp [kk])
                    exact j208 _ _ _  (X1039.more (by decide) (by decide)) e1039 N1039 z1039 fA_bv_1039 fA_bs_1039 Vq1 
                refine go (T' := Tj1030) (g' := (mkF m 139 #[.val (.int p1), .val (.int p2), .val (.int p3), .val (.int p4), .val (.int p5), .val (.int (Int32.ofNat n)), .val (.int (Int32.ofNat st)), .val (.int (Int32.ofNat os)), .val (.int (Int32.ofNat q)), .val (.int (Int32.ofNat r)), .val (.ref bv), .val (.ref bs), .unset, .unset, .unset] [(.int (Int32.ofNat r))])) (fun t kt => XS.iload Xj1030.here hx rfl (hb hby at_137) rfl kt) ?_
                refine go (T' := Tj1030) (g' := (mkF m 141 #[.val (.int p1), .val (.int p2), .val (.int p3), .val (.int p4), .val (.int p5), .val (.int (Int32.ofNat n)), .val (.int (Int32.ofNat st)), .val (.int (Int32.ofNat os)), .val (.int (Int32.ofNat q)), .val (.int (Int32.ofNat r)), .val (.ref bv), .val (.ref bs), .unset, .unset, .unset] [(.int (Int32.ofNat n)), (.int (Int32.ofNat r))])) (fun t kt => XS.iload Xj1030.here hx rfl (hb hby at_139) rfl kt) ?_
                by_cases hrn : (Int32.ofNat r) < (Int32.ofNat n)
                · refine go (T' := Tj1030) (g' := (mkF m 144 #[.val (.int p1), .val (.int p2), .val (.int p3), .val (.int p4), .val (.int p5), .val (.int (Int32.ofNat n)), .val (.int (Int32.ofNat st)), .val (.int (Int32.ofNat os)), .val (.int (Int32.ofNat q)), .val (.int (Int32.ofNat r)), .val (.ref bv), .val (.ref bs), .unset, .unset, .unset] [])) (fun t kt => XS.icmpNo Xj1030.here hx rfl (hb hby at_141) rfl (tlt hrn).2.1 kt) ?_
                  have krn := (nn_lt (by omega) (by omega)).mp hrn
                  refine go (T' := Tj1030) (g' := (mkF m 146 #[.val (.int p1), .val (.int p2), .val (.int p3), .val (.int p4), .val (.int p5), .val (.int (Int32.ofNat n)), .val (.int (Int32.ofNat st)), .val (.int (Int32.ofNat os)), .val (.int (Int32.ofNat q)), .val (.int (Int32.ofNat r)), .val (.ref bv), .val (.ref bs), .unset, .unset, .unset] [(.ref bv)])) (fun t kt => XS.aload Xj1030.here hx rfl (hb hby at_144) rfl rfl kt) ?_
                  refine go (T' := Tj1030) (g' := (mkF m 148 #[.val (.int p1), .val (.int p2), .val (.int p3), .val (.int p4), .val (.int p5), .val (.int (Int32.ofNat n)), .val (.int (Int32.ofNat st)), .val (.int (Int32.ofNat os)), .val (.int (Int32.ofNat q)), .val (.int (Int32.ofNat r)), .val (.ref bv), .val (.ref bs), .unset, .unset, .unset] [(.int (Int32.ofNat n)), (.ref bv)])) (fun t kt => XS.iload Xj1030.here hx rfl (hb hby at_146) rfl kt) ?_
                  refine go (T' := Tj1030) (g' := (mkF m 150 #[.val (.int p1), .val (.int p2), .val (.int p3), .val (.int p4), .val (.int p5), .val (.int (Int32.ofNat n)), .val (.int (Int32.ofNat st)), .val (.int (Int32.ofNat os)), .val (.int (Int32.ofNat q)), .val (.int (Int32.ofNat r)), .val (.ref bv), .val (.ref bs), .unset, .unset, .unset] [(.int (Int32.ofNat q)), (.int (Int32.ofNat n)), (.ref bv)])) (fun t kt => XS.iload Xj1030.here hx rfl (hb hby at_148) rfl kt) ?_
                  refine go (T' := Tj1030) (g' := (mkF m 152 #[.val (.int p1), .val (.int p2), .val (.int p3), .val (.int p4), .val (.int p5), .val (.int (Int32.ofNat n)), .val (.int (Int32.ofNat st)), .val (.int (Int32.ofNat os)), .val (.int (Int32.ofNat q)), .val (.int (Int32.ofNat r)), .val (.ref bv), .val (.ref bs), .unset, .unset, .unset] [(.int (Int32.ofNat r)), (.int (Int32.ofNat q)), (.int (Int32.ofNat n)), (.ref bv)])) (fun t kt => XS.iload Xj1030.here hx rfl (hb hby at_150) rfl kt) ?_
                  obtain ⟨_, _, ⟨T1034, L1034, k1034, n1034⟩, -, X1034, ⟨Lc1034, hQ1034, l1034, y1034, z1034⟩, st1034⟩ := Jvm.LawKit.callS Xj1030 hx (y := (⟨"com/example/damarium/damarium/position/MoveSameSquaresPinLaw", "pos", "(III)I"⟩ : MethodName)) hown (mvT hZ (hw _ (List.mem_of_getElem? (i := 5) rfl))) (mvT hZ (hw _ (List.mem_of_getElem? (i := 6) rfl))) (mvT hZ (hw _ (List.mem_of_getElem? (i := 7) rfl))) (mvT hZ (hw _ (List.mem_of_getElem? (i := 8) rfl))) (by decide) (backOf (W := 1) (rm2 l Z a0 hw [] (Int32.ofNat n) (Int32.ofNat q) (Int32.ofNat r) n q r hj1030 n0 zj1030 rfl rfl rfl (by omega) hq krn) hZ (hw _ (List.mem_of_getElem? (i := 8) rfl)) (hw _ (List.mem_of_getElem? (i := 7) rfl)) (by decide) (by decide)) (g := (mkF m 152 #[.val (.int p1), .val (.int p2), .val (.int p3), .val (.int p4), .val (.int p5), .val (.int (Int32.ofNat n)), .val (.int (Int32.ofNat st)), .val (.int (Int32.ofNat os)), .val (.int (Int32.ofNat q)), .val (.int (Int32.ofNat r)), .val (.ref bv), .val (.ref bs), .unset, .unset, .unset] [(.int (Int32.ofNat r)), (.int (Int32.ofNat q)), (.int (Int32.ofNat n)), (.ref bv)])) rfl (by rw [hml]; rfl) (argsL := [(.int (Int32.ofNat n)), (.int (Int32.ofNat q)), (.int (Int32.ofNat r))]) (rest := [(.ref bv)]) (lenOf pd_0 rfl) rfl (by show 2 * 0 + _ ≤ _; exact Nat.le_of_eq rfl) (hb hby at_152) (fun _ _ => ⟨rfl, ej1030, (by decide : 2 + 1 ≤ _), (by decide : 7 + 18 ≤ _)⟩)
                  dsimp only [Pt.U, Pt.locs, Pt.cells, Pt.slots] at X1034 l1034 y1034 z1034 st1034 hQ1034
                  subst l1034 y1034 z1034
                  obtain ⟨rfl, N1034q, K1034⟩ := hQ1034
                  have N1034 := Fr.app Nj1030 N1034q
                  refine go (T' := T1034) (g' := (mkF m 155 #[.val (.int p1), .val (.int p2), .val (.int p3), .val (.int p4), .val (.int p5), .val (.int (Int32.ofNat n)), .val (.int (Int32.ofNat st)), .val (.int (Int32.ofNat os)), .val (.int (Int32.ofNat q)), .val (.int (Int32.ofNat r)), .val (.ref bv), .val (.ref bs), .unset, .unset, .unset] [(.int (Int32.ofNat (own_pos n q r))), (.ref bv)])) st1034 ?_
                  have z1034 : n0 ≤ T1034.heap.size := Nat.le_trans zj1030 K1034.1
                  have fA_bv_1034 : Aw Z T1034.heap bv .int (3 : Int32) (fun i => .int (own_v p1 p2 p3 i)) := fj1030_0.keep K1034 nin0
                  have fA_bs_1034 : Aw Z T1034.heap bs .int (4 : Int32) (fun i => .int (own_sq p1 p2 p3 p4 st i)) := fj1030_1.keep K1034 nin0
                  have hp1034 : own_pos n q r < 3 := own_poslt (by omega) hq krn
                  refine go (T' := T1034) (g' := (mkF m 156 #[.val (.int p1), .val (.int p2), .val (.int p3), .val (.int p4), .val (.int p5), .val (.int (Int32.ofNat n)), .val (.int (Int32.ofNat st)), .val (.int (Int32.ofNat os)), .val (.int (Int32.ofNat q)), .val (.int (Int32.ofNat r)), .val (.ref bv), .val (.ref bs), .unset, .unset, .unset] [(.int (own_v p1 p2 p3 (own_pos n q r)))])) (fun t kt => own_ldI X1034 hx hZ rfl fA_bv_1034 (j := (Int32.ofNat (own_pos n q r))) ⟨nn_neg (by omega), (nn_lt (j := 3) (by omega) (by omega)).mpr (by omega)⟩ (v := (.int (own_v p1 p2 p3 (own_pos n q r)))) (by show Value.int (own_v p1 p2 p3 _) = _; rw [nn_nat (by omega)]) (g := (mkF m 155 #[.val (.int p1), .val (.int p2), .val (.int p3), .val (.int p4), .val (.int p5), .val (.int (Int32.ofNat n)), .val (.int (Int32.ofNat st)), .val (.int (Int32.ofNat os)), .val (.int (Int32.ofNat q)), .val (.int (Int32.ofNat r)), .val (.ref bv), .val (.ref bs), .unset, .unset, .unset] [(.int (Int32.ofNat (own_pos n q r))), (.ref bv)])) rfl rfl (hb hby at_155) _ kt) ?_
                  refine go (T' := T1034) (g' := (mkF m 160 #[.val (.int p1), .val (.int p2), .val (.int p3), .val (.int p4), .val (.int p5), .val (.int (Int32.ofNat n)), .val (.int (Int32.ofNat st)), .val (.int (Int32.ofNat os)), .val (.int (Int32.ofNat q)), .val (.int (Int32.ofNat r)), .val (.ref bv), .val (.ref bs), .unset, .unset, .unset] [(.int (own_v p1 p2 p3 (own_pos n q r)))])) (fun t kt => XS.goto X1034.here hx rfl (pc0 := 156) (pc' := 160) rfl (hb hby at_156) (by decide) (by decide) kt) ?_
                  exact goEq (by rw [own_mi, if_pos krn]) (j160 _ _ _  (X1034.more (by decide) (by decide)) rfl N1034 z1034 fA_bv_1034 fA_bs_1034 )
                · refine go (T' := Tj1030) (g' := (mkF m 159 #[.val (.int p1), .val (.int p2), .val (.int p3), .val (.int p4), .val (.int p5), .val (.int (Int32.ofNat n)), .val (.int (Int32.ofNat st)), .val (.int (Int32.ofNat os)), .val (.int (Int32.ofNat q)), .val (.int (Int32.ofNat r)), .val (.ref bv), .val (.ref bs), .unset, .unset, .unset] [])) (fun t kt => XS.icmpYes Xj1030.here hx rfl (pc0 := 141) (pc' := 159) rfl (hb hby at_141) rfl (flt hrn).2.1 (by decide) (by decide) kt) ?_
                  have krn : ¬ r < n := fun z => hrn ((nn_lt (by omega) (by omega)).mpr z)
                  refine go (T' := Tj1030) (g' := (mkF m 160 #[.val (.int p1), .val (.int p2), .val (.int p3), .val (.int p4), .val (.int p5), .val (.int (Int32.ofNat n)), .val (.int (Int32.ofNat st)), .val (.int (Int32.ofNat os)), .val (.int (Int32.ofNat q)), .val (.int (Int32.ofNat r)), .val (.ref bv), .val (.ref bs), .unset, .unset, .unset] [(.int p4)])) (fun t kt => XS.iloadN Xj1030.here hx rfl (hb hby at_159) rfl kt) ?_
                  exact goEq (by rw [own_mi, if_neg krn]) (j160 _ _ _  (Xj1030.more (by decide) (by decide)) ej1030 Nj1030 zj1030 fj1030_0 fj1030_1 )
              by_cases hs0 : (Int32.ofNat st) = (0 : Int32)
              · refine go (T' := T1029) (g' := (mkF m 124 #[.val (.int p1), .val (.int p2), .val (.int p3), .val (.int p4), .val (.int p5), .val (.int (Int32.ofNat n)), .val (.int (Int32.ofNat st)), .val (.int (Int32.ofNat os)), .val (.int (Int32.ofNat q)), .val (.int (Int32.ofNat r)), .val (.ref bv), .val (.ref bs), .unset, .unset, .unset] [])) (fun t kt => XS.ifNo X1029.here hx rfl (hb hby at_121) rfl ((if0 _ _).trans (teq hs0).2) kt) ?_
                have ks0 : st = 0 := (nn_eq (j := 0) (by omega) (by omega)).mp hs0
                refine go (T' := T1029) (g' := (mkF m 126 #[.val (.int p1), .val (.int p2), .val (.int p3), .val (.int p4), .val (.int p5), .val (.int (Int32.ofNat n)), .val (.int (Int32.ofNat st)), .val (.int (Int32.ofNat os)), .val (.int (Int32.ofNat q)), .val (.int (Int32.ofNat r)), .val (.ref bv), .val (.ref bs), .unset, .unset, .unset] [(.ref bs)])) (fun t kt => XS.aload X1029.here hx rfl (hb hby at_124) rfl rfl kt) ?_
                refine go (T' := T1029) (g' := (mkF m 127 #[.val (.int p1), .val (.int p2), .val (.int p3), .val (.int p4), .val (.int p5), .val (.int (Int32.ofNat n)), .val (.int (Int32.ofNat st)), .val (.int (Int32.ofNat os)), .val (.int (Int32.ofNat q)), .val (.int (Int32.ofNat r)), .val (.ref bv), .val (.ref bs), .unset, .unset, .unset] [(.int (3 : Int32)), (.ref bs)])) (fun t kt => XS.iconst X1029.here hx rfl (hb hby at_126) kt) ?_
                refine go (T' := T1029) (g' := (mkF m 128 #[.val (.int p1), .val (.int p2), .val (.int p3), .val (.int p4), .val (.int p5), .val (.int (Int32.ofNat n)), .val (.int (Int32.ofNat st)), .val (.int (Int32.ofNat os)), .val (.int (Int32.ofNat q)), .val (.int (Int32.ofNat r)), .val (.ref bv), .val (.ref bs), .unset, .unset, .unset] [(.int p4), (.int (3 : Int32)), (.ref bs)])) (fun t kt => XS.iloadN X1029.here hx rfl (hb hby at_127) rfl kt) ?_
                obtain ⟨T1031, h1031, X1031, e1031, W1031, V1031, st1031⟩ := own_stI X1029 hx hZ e1029 V1029 (j := (3 : Int32)) ⟨by decide, by decide⟩ (g := (mkF m 128 #[.val (.int p1), .val (.int p2), .val (.int p3), .val (.int p4), .val (.int p5), .val (.int (Int32.ofNat n)), .val (.int (Int32.ofNat st)), .val (.int (Int32.ofNat os)), .val (.int (Int32.ofNat q)), .val (.int (Int32.ofNat r)), .val (.ref bv), .val (.ref bs), .unset, .unset, .unset] [(.int p4), (.int (3 : Int32)), (.ref bs)])) rfl rfl (hb hby at_128)
                have z1031 : n0 ≤ h1031.size := Nat.le_trans z1029 (Keep.of_wr W1031).1
                have fA_bv_1031 : Aw Z h1031 bv .int (3 : Int32) (fun i => .int (own_v p1 p2 p3 i)) := fA_bv_1029.other W1031 ne_bv_bs
                have N1031 := Fr.snoc X1031 N1029 g_bs
                refine go (T' := T1031) (g' := (mkF m 129 #[.val (.int p1), .val (.int p2), .val (.int p3), .val (.int p4), .val (.int p5), .val (.int (Int32.ofNat n)), .val (.int (Int32.ofNat st)), .val (.int (Int32.ofNat os)), .val (.int (Int32.ofNat q)), .val (.int (Int32.ofNat r)), .val (.ref bv), .val (.ref bs), .unset, .unset, .unset] [])) st1031 ?_
                have Vs : Aw Z h1031 bs .int (4 : Int32) (fun i => .int (own_sq p1 p2 p3 p4 st i)) := V1031.congr (by subst ks0; exact fun i hi => (by have hi2 : i < 4 := hi; have hc : i = 0 ∨ i = 1 ∨ i = 2 ∨ i = 3 := (by omega); rcases hc with rfl | rfl | rfl | rfl <;> rfl))
                refine go (T' := T1031) (g' := (mkF m 137 #[.val (.int p1), .val (.int p2), .val (.int p3), .val (.int p4), .val (.int p5), .val (.int (Int32.ofNat n)), .val (.int (Int32.ofNat st)), .val (.int (Int32.ofNat os)), .val (.int (Int32.ofNat q)), .val (.int (Int32.ofNat r)), .val (.ref bv), .val (.ref bs), .unset, .unset, .unset] [])) (fun t kt => XS.goto X1031.here hx rfl (pc0 := 129) (pc' := 137) rfl (hb hby at_129) (by decide) (by decide) kt) ?_
                exact j137 _ _ _  (X1031.more (by decide) (by decide)) e1031 N1031 z1031 fA_bv_1031 Vs 
              · refine go (T' := T1029) (g' := (mkF m 132 #[.val (.int p1), .val (.int p2), .val (.int p3), .val (.int p4), .val (.int p5), .val (.int (Int32.ofNat n)), .val (.int (Int32.ofNat st)), .val (.int (Int32.ofNat os)), .val (.int (Int32.ofNat q)), .val (.int (Int32.ofNat r)), .val (.ref bv), .val (.ref bs), .unset, .unset, .unset] [])) (fun t kt => XS.ifYes X1029.here hx rfl (pc0 := 121) (pc' := 132) rfl (hb hby at_121) rfl ((if0 _ _).trans (feq hs0).2) (by decide) (by decide) kt) ?_
                have ks0 : st = 1 := (by have hq0 : ¬ st = 0 := fun z => hs0 (congrArg Int32.ofNat z); omega)
                refine go (T' := T1029) (g' := (mkF m 134 #[.val (.int p1), .val (.int p2), .val (.int p3), .val (.int p4), .val (.int p5), .val (.int (Int32.ofNat n)), .val (.int (Int32.ofNat st)), .val (.int (Int32.ofNat os)), .val (.int (Int32.ofNat q)), .val (.int (Int32.ofNat r)), .val (.ref bv), .val (.ref bs), .unset, .unset, .unset] [(.ref bs)])) (fun t kt => XS.aload X1029.here hx rfl (hb hby at_132) rfl rfl kt) ?_
                refine go (T' := T1029) (g' := (mkF m 135 #[.val (.int p1), .val (.int p2), .val (.int p3), .val (.int p4), .val (.int p5), .val (.int (Int32.ofNat n)), .val (.int (Int32.ofNat st)), .val (.int (Int32.ofNat os)), .val (.int (Int32.ofNat q)), .val (.int (Int32.ofNat r)), .val (.ref bv), .val (.ref bs), .unset, .unset, .unset] [(.int (0 : Int32)), (.ref bs)])) (fun t kt => XS.iconst X1029.here hx rfl (hb hby at_134) kt) ?_
                refine go (T' := T1029) (g' := (mkF m 136 #[.val (.int p1), .val (.int p2), .val (.int p3), .val (.int p4), .val (.int p5), .val (.int (Int32.ofNat n)), .val (.int (Int32.ofNat st)), .val (.int (Int32.ofNat os)), .val (.int (Int32.ofNat q)), .val (.int (Int32.ofNat r)), .val (.ref bv), .val (.ref bs), .unset, .unset, .unset] [(.int p4), (.int (0 : Int32)), (.ref bs)])) (fun t kt => XS.iloadN X1029.here hx rfl (hb hby at_135) rfl kt) ?_
                obtain ⟨T1032, h1032, X1032, e1032, W1032, V1032, st1032⟩ := own_stI X1029 hx hZ e1029 V1029 (j := (0 : Int32)) ⟨by decide, by decide⟩ (g := (mkF m 136 #[.val (.int p1), .val (.int p2), .val (.int p3), .val (.int p4), .val (.int p5), .val (.int (Int32.ofNat n)), .val (.int (Int32.ofNat st)), .val (.int (Int32.ofNat os)), .val (.int (Int32.ofNat q)), .val (.int (Int32.ofNat r)), .val (.ref bv), .val (.ref bs), .unset, .unset, .unset] [(.int p4), (.int (0 : Int32)), (.ref bs)])) rfl rfl (hb hby at_136)
                have z1032 : n0 ≤ h1032.size := Nat.le_trans z1029 (Keep.of_wr W1032).1
                have fA_bv_1032 : Aw Z h1032 bv .int (3 : Int32) (fun i => .int (own_v p1 p2 p3 i)) := fA_bv_1029.other W1032 ne_bv_bs
                have N1032 := Fr.snoc X1032 N1029 g_bs
                refine go (T' := T1032) (g' := (mkF m 137 #[.val (.int p1), .val (.int p2), .val (.int p3), .val (.int p4), .val (.int p5), .val (.int (Int32.ofNat n)), .val (.int (Int32.ofNat st)), .val (.int (Int32.ofNat os)), .val (.int (Int32.ofNat q)), .val (.int (Int32.ofNat r)), .val (.ref bv), .val (.ref bs), .unset, .unset, .unset] [])) st1032 ?_
                have Vs : Aw Z h1032 bs .int (4 : Int32) (fun i => .int (own_sq p1 p2 p3 p4 st i)) := V1032.congr (by subst ks0; exact fun i hi => (by have hi2 : i < 4 := hi; have hc : i = 0 ∨ i = 1 ∨ i = 2 ∨ i = 3 := (by omega); rcases hc with rfl | rfl | rfl | rfl <;> rfl))
                exact j137 _ _ _  (X1032.more (by decide) (by decide)) e1032 N1032 z1032 fA_bv_1032 Vs 
set_option maxRecDepth 65536 in
set_option maxHeartbeats 40000000 in
theorem comes_1 {Post : Tables → Env → Array Value → State → Outcome → State → Prop} (hpost : ∀ tb e args s v u, (limb_1_1.after args s (.returned v) u = true ∧ limb_1_2.after args s (.returned v) u = true ∧ True) → FrameEnd s (.returned v) u (Jvm.fieldLocs frame_1_writes args s ++ Jvm.arrayLocs frame_1_arrays args s ++ Jvm.staticLocs frame_1_statics s) 24 256 → Post tb e args s (.returned v) u) :
    ArmFor flags0 classFile x code maxLocals ret World_1 tables_1 room_1 Calls_1 rest_1 Pre_1 Post := by
  intro l hfl _ _ p e ha hc hk s m args below hf hA hF happ hP
  obtain ⟨hcalls, hrest, hpre⟩ := hP
  obtain ⟨-, -, -, hnamed, -, -, -, hat⟩ := (Spec.applies_iff hf).mp happ
  obtain ⟨hg, hn⟩ := and_e (Cond.before_iff.mp (show (Jvm.Cond.and given_1 narrow_1).before args s = true from hpre))
  obtain ⟨g2, g2'⟩ := and_e hg
  obtain ⟨g4, g4'⟩ := and_e g2'
  obtain ⟨g6, g6'⟩ := and_e g4'
  obtain ⟨g8, g8'⟩ := and_e g6'
  obtain ⟨g10, g10'⟩ := and_e g8'
  obtain ⟨w0, w1, w2, w3, w4, rfl⟩ : ∃ w0 w1 w2 w3 w4 : Value, args = #[w0, w1, w2, w3, w4] := by
    have hs : args.size = 5 := by simpa [Cond.value, given_1] using g2
    obtain ⟨L⟩ := args
    match L, hs with
    | [w0, w1, w2, w3, w4], _ => exact ⟨w0, w1, w2, w3, w4, rfl⟩
  have hw := fun d (hd : d ∈ tables_1) => atoms_spec (ws := Jvm.Cond.code x code maxLocals ret :: tables_1) hat d (List.mem_cons_of_mem _ hd)
  have hfit : Fit s := fun {y c} hc i hi => by
    obtain ⟨ha, rfl⟩ := Array.getElem?_eq_some_iff.mp hc
    have q := List.all_eq_true.mp ((Array.all_eq_true_iff_forall_mem.mp hF) _ (Array.getElem_mem ha)) i (List.mem_range.mpr hi)
    simpa [Array.getElem?_eq_getElem hi] using q
  obtain ⟨i0, ei0⟩ := is_v g4
  obtain rfl : w0 = (.int i0) := Option.some.inj ei0
  obtain ⟨i1, ei1⟩ := is_v g6
  obtain rfl : w1 = (.int i1) := Option.some.inj ei1
  obtain ⟨i2, ei2⟩ := is_v g8
  obtain rfl : w2 = (.int i2) := Option.some.inj ei2
  obtain ⟨i3, ei3⟩ := is_v g10
  obtain rfl : w3 = (.int i3) := Option.some.inj ei3
  obtain ⟨i4, ei4⟩ := is_v g10'
  obtain rfl : w4 = (.int i4) := Option.some.inj ei4
  obtain ⟨n, o, h1, h2, h3, _, L, rfl, ⟨rfl, N⟩, hq⟩ := rm0 l s _ hw tables_1 i0 i1 i2 i3 i4 s.heap s.heap.size (Nat.le_refl _) p e ha hc hk s m _ below hf ((Spec.applies_iff_loose hf).mp happ).1 ⟨rfl, State.Warmed39.refl s, rfl⟩ trivial
  refine ⟨n, _, h1, h2, h3, hpost _ _ _ _ _ _ ⟨Cond.after_iff.mpr rfl, Cond.after_iff.mpr (eq_i res_at (Term.int_eval (1)) rfl), trivial⟩ ⟨hq.1, hq.2.1, (hq.2.2.sift fun y hy => Or.inr (N y hy)).mono (by decide) (by decide)⟩⟩
theorem main_1_1 : Claimed_1_1 := comes_1 fun _ _ _ _ _ _ h hF => ⟨h.1, hF⟩
theorem main_1_2 : Claimed_1_2 := comes_1 fun _ _ _ _ _ _ h hF => ⟨h.2.1, hF⟩
end Jvm.Pilot.@@N@@
namespace Jvm.Pilot.@@N@@
open Jvm Jvm.ClassFile Sem Op Lib Jvm.Free Jvm.Stand Jvm.Pilot.@@N@@.Jvm.D
/-! MADE BY PROGRAM (witnessworld.py) out of the Statement's table words and the real class files: 10 classes; the members and pool entries that the words name. The judged class is class 1, her method 2. -/
namespace start1
open Jvm.ClassFile
def u (s : String) : CpInfo := .utf8 (stringToUtf16 s)
/-- a pool by its gaps: so many unusable entries, then the entry; so many at the end -/
def gap : Nat → List CpInfo → List CpInfo
  | 0, r => r
  | n + 1, r => .unusable :: gap n r
def poolList (es : List (Nat × CpInfo)) (last : Nat) : List CpInfo := es.foldr (fun e r => gap e.1 (e.2 :: r)) (gap last [])
def pool (es : List (Nat × CpInfo)) (last : Nat) : Array CpInfo := ⟨poolList es last⟩
def fileOf (pool : Array CpInfo) (this : Nat) (attrs : Array Attribute := #[]) (ms : Array MethodInfo := #[]) (fl : Nat := 33) (sup : Nat := 0) (ifs : Array Nat := #[]) (fds : Array FieldInfo := #[]) : ClassFile where
  minorVersion := 0
  majorVersion := 65
  constantPool := pool
  accessFlags := fl
  thisClass := this
  superClass := sup
  interfaces := ifs
  fields := fds
  methods := ms
  attributes := attrs
def plain (name : String) (sup : Option ClassId) : Class where
  name := name
  kind := .ordinary
  loader := none
  accessFlags := 33
  super := sup
  interfaces := #[]
  cf := none
  fields := #[]
  methods := #[]
  instanceTypes := #[]
  staticTypes := #[]
  resolved := #[]
  callSites := []
  init := .initialized
  statics := none
  mirror := none

def pool0 : Array CpInfo := pool [(5, u "<init>"), (0, u "()V"), (1, .class_ 10), (1, u "java/lang/Object")] 113

def k0m0 : Method := { name := "<init>", desc := "()V", sig := { parameters := [], returnType := none }, accessFlags := 1, code := none }
/-- java/lang/Object -/
def k0 : Class := { plain "java/lang/Object" none with
  accessFlags := 33
  interfaces := #[]
  cf := some (fileOf pool0 8 #[] #[{ accessFlags := 1, nameIndex := 5, descriptorIndex := 6, attributes := #[] }] 33 0 #[] #[])
  fields := #[]
  methods := #[k0m0]
  instanceTypes := #[]
  staticTypes := #[]
  resolved := Array.replicate 124 none
  statics := none }

def pool1 : Array CpInfo := pool [(2, .class_ 4), (1, u "java/lang/Object"), (0, u "<init>"), (0, u "()V"), (0, .methodref 8 9), (0, .class_ 10), (0, .nameAndType 11 12), (0, u "com/example/damarium/damarium/position/MoveSameSquaresPinLaw"), (0, u "pos"), (0, u "(III)I"), (0, .methodref 14 15), (0, .class_ 16), (0, .nameAndType 17 18), (0, u "com/example/damarium/damarium/position/Move"), (0, u "sameSquares"), (0, u "([II[III)Z"), (3, u "law"), (0, u "(IIIII)Z")] 4

def k1m0 : Method := { name := "<init>", desc := "()V", sig := { parameters := [], returnType := none }, accessFlags := 1, code := none }
def k1c1 : Code := { maxStack := 4, maxLocals := 4, code := method_2_code, exceptionTable := #[], attributes := #[] }
def k1m1 : Method := { name := "pos", desc := "(III)I", sig := { parameters := [.int, .int, .int], returnType := some .int }, accessFlags := 10, code := some k1c1 }
def k1c2 : Code := { maxStack := 6, maxLocals := 15, code := code, exceptionTable := #[], attributes := #[] }
def k1m2 : Method := { name := "law", desc := "(IIIII)Z", sig := { parameters := [.int, .int, .int, .int, .int], returnType := some .boolean }, accessFlags := 9, code := some k1c2 }
/-- com/example/damarium/damarium/position/MoveSameSquaresPinLaw -/
def k1 : Class := { plain "com/example/damarium/damarium/position/MoveSameSquaresPinLaw" (some 0) with
  accessFlags := 49
  interfaces := #[]
  cf := some (fileOf pool1 8 #[] #[{ accessFlags := 1, nameIndex := 5, descriptorIndex := 6, attributes := #[] }, { accessFlags := 10, nameIndex := 11, descriptorIndex := 12, attributes := #[] }, { accessFlags := 9, nameIndex := 22, descriptorIndex := 23, attributes := #[] }] 49 2 #[] #[])
  fields := #[]
  methods := #[k1m0, k1m1, k1m2]
  instanceTypes := #[]
  staticTypes := #[]
  resolved := Array.replicate 28 none
  statics := none }

def pool2 : Array CpInfo := pool [(1, .class_ 2), (0, u "java/lang/Comparable"), (0, .class_ 4), (0, u "java/lang/Object")] 7

/-- java/lang/Comparable -/
def k2 : Class := { plain "java/lang/Comparable" (some 0) with
  accessFlags := 1537
  interfaces := #[]
  cf := some (fileOf pool2 1 #[] #[] 1537 3 #[] #[])
  fields := #[]
  methods := #[]
  instanceTypes := #[]
  staticTypes := #[]
  resolved := Array.replicate 12 none
  statics := none }

def pool3 : Array CpInfo := pool [(2, .class_ 4), (1, u "java/lang/Object"), (14, u "[I"), (3, .class_ 25), (1, u "com/example/damarium/damarium/position/Move"), (0, u "route"), (2, u "captured"), (2, u "crowns"), (0, u "Z"), (9, u "sameSquares"), (0, u "([II[III)Z"), (19, .class_ 65), (0, u "java/lang/Comparable")] 34

def k3c0 : Code := { maxStack := 4, maxLocals := 8, code := prog_32_method_11_code, exceptionTable := #[], attributes := #[] }
def k3m0 : Method := { name := "sameSquares", desc := "([II[III)Z", sig := { parameters := [(.array .int), .int, (.array .int), .int, .int], returnType := some .boolean }, accessFlags := 8, code := some k3c0 }
/-- com/example/damarium/damarium/position/Move -/
def k3 : Class := { plain "com/example/damarium/damarium/position/Move" (some 0) with
  accessFlags := 49
  interfaces := #[2]
  cf := some (fileOf pool3 23 #[] #[{ accessFlags := 8, nameIndex := 43, descriptorIndex := 44, attributes := #[] }] 49 2 #[64] #[{ accessFlags := 18, nameIndex := 26, descriptorIndex := 19, attributes := #[] }, { accessFlags := 18, nameIndex := 29, descriptorIndex := 19, attributes := #[] }, { accessFlags := 18, nameIndex := 32, descriptorIndex := 33, attributes := #[] }])
  fields := #[{ name := "route", type := (.array .int), accessFlags := 18, slot := 0, constantValue := 0 }, { name := "captured", type := (.array .int), accessFlags := 18, slot := 1, constantValue := 0 }, { name := "crowns", type := .boolean, accessFlags := 18, slot := 2, constantValue := 0 }]
  methods := #[k3m0]
  instanceTypes := #[(.array .int), (.array .int), .boolean]
  staticTypes := #[]
  resolved := Array.replicate 100 none
  statics := none }

def pool4 : Array CpInfo := pool [(1, u "java/lang/Cloneable"), (0, .class_ 1), (0, u "java/lang/Object"), (0, .class_ 3)] 3

/-- java/lang/Cloneable -/
def k4 : Class := { plain "java/lang/Cloneable" (some 0) with
  accessFlags := 1537
  interfaces := #[]
  cf := some (fileOf pool4 2 #[] #[] 1537 4 #[] #[])
  fields := #[]
  methods := #[]
  instanceTypes := #[]
  staticTypes := #[]
  resolved := Array.replicate 8 none
  statics := none }

def pool5 : Array CpInfo := pool [(1, u "java/io/Serializable"), (0, .class_ 1), (0, u "java/lang/Object"), (0, .class_ 3)] 3

/-- java/io/Serializable -/
def k5 : Class := { plain "java/io/Serializable" (some 0) with
  accessFlags := 1537
  interfaces := #[]
  cf := some (fileOf pool5 2 #[] #[] 1537 4 #[] #[])
  fields := #[]
  methods := #[]
  instanceTypes := #[]
  staticTypes := #[]
  resolved := Array.replicate 8 none
  statics := none }

/-- the primitive byte -/
def k6 : Class := { plain "byte" none with kind := .primitive 'B', accessFlags := 0x411 }
/-- [B -/
def k7 : Class := { plain "[B" (some 0) with kind := .array 6 .byte, interfaces := #[4, 5], accessFlags := 1041 }

/-- the primitive int -/
def k8 : Class := { plain "int" none with kind := .primitive 'I', accessFlags := 0x411 }
/-- [I -/
def k9 : Class := { plain "[I" (some 0) with kind := .array 8 .int, interfaces := #[4, 5], accessFlags := 1041 }

def heap : Heap := #[]
def classes : Array Class := #[k0, k1, k2, k3, k4, k5, k6, k7, k8, k9]
def interned : List (Array UInt16 × Addr) := []
def slotsUsed : Nat := 0
def theMethod : MethodId := ⟨1, 2⟩
def args0 : Array Value := #[.int 1, .int 2, .int 3, .int 4, .int 5]
def aboutOver (below : List Frame) : State where
  vm := { classes := classes, interned := interned.toArray }
  heap := heap
  slotsUsed := slotsUsed
  threads := #[{ frames := .invoking theMethod args0 :: below }]
def below0 : List Frame := [.native { method := ⟨0, 0⟩, args := #[] }]
def about1 : State := aboutOver below0
def p0 : Program := .bare "" "" ""
def e0 : Env := launch0.env 0 0 0
theorem w_frames : about1.frames = Frame.invoking theMethod args0 :: below0 := rfl
set_option maxRecDepth 65536 in
theorem w_args : argsFit about1.vm theMethod args0 = true := by decide +kernel
set_option maxRecDepth 65536 in
theorem w_heap : heapFits about1 = true := by decide +kernel
set_option maxRecDepth 65536 in
theorem w_runnable : about1.curStatus? = some .runnable := by decide +kernel
set_option maxRecDepth 65536 in
theorem w_alone : about1.alone = true := by decide +kernel
set_option maxRecDepth 65536 in
theorem w_named : about1.methodNamed? x = some theMethod := by decide +kernel
set_option maxRecDepth 65536 in
theorem w_hears : about1.hears theMethod below0 = true := by decide +kernel
set_option maxRecDepth 65536 in
theorem w_ripe : about1.ripe theMethod args0 below0 = true := by decide +kernel
theorem w_running : about1.status = .running := rfl
set_option maxRecDepth 65536 in
theorem w_room : about1.hasRoom e0.platform room_1 = true :=
  launch0.hasRoom_least _ room_1 (by decide +kernel) (by decide +kernel) (by decide +kernel) (by decide +kernel) (by decide +kernel) (by decide +kernel)
theorem allAtoms_all (ts : List Jvm.Cond) (a : Array Jvm.Value) (st : Jvm.State) : (allAtoms ts).before a st = ts.all (fun c => c.before a st) := by
  induction ts with
  | nil => rfl
  | cons c t ih =>
    show (Jvm.Cond.and c (allAtoms t)).before a st = _
    rw [Jvm.Cond.before_and, ih, List.all_cons]
def words1 : List Jvm.Cond := Jvm.Cond.code x code maxLocals ret :: tables_1
/-- a 'code' word, met by the world's own term for the bytes: nothing is compared byte by byte -/
theorem code_word {y : MethodName} {bytes : ByteArray} {mx : Nat} {rt : Option FieldType} {a : Array Value} {s : State} {m : MethodId} {meth : Method} {c : Code} (h1 : s.methodNamed? y = some m) (h2 : s.vm.method? m = some meth) (h3 : meth.code = some c) (h4 : c.code = bytes)
    (h5 : (c.maxLocals == mx && c.exceptionTable.isEmpty && decide (c.maxStack ≤ mostOperands) && decide (meth.sig.returnType = rt) && !meth.locks && decide (parseMethodDescriptor y.desc = some meth.sig)) = true) : (Jvm.Cond.code y bytes mx rt).before a s = true := by
  simp only [Bool.and_eq_true, beq_iff_eq, Bool.not_eq_true', decide_eq_true_eq] at h5
  obtain ⟨⟨⟨⟨⟨g1, g2⟩, g3⟩, g4⟩, g5⟩, g6⟩ := h5
  simp [Cond.before, Cond.holds, Cond.value, h1, h2, h3, h4, g1, g2, g3, g4, g5, g6]
def isCode : Jvm.Cond → Bool
  | .code _ _ _ _ => true
  | _ => false
theorem all_split {L : List Jvm.Cond} {P : Jvm.Cond → Bool} (h1 : L.all (fun c => isCode c || P c) = true) (h2 : ∀ c ∈ L.filter isCode, P c = true) : L.all P = true := by
  refine List.all_eq_true.mpr fun c hc => ?_
  have h := List.all_eq_true.mp h1 c hc
  rcases Bool.eq_false_or_eq_true (isCode c) with hi | hi
  · exact h2 c (List.mem_filter.mpr ⟨hc, hi⟩)
  · simpa [hi] using h
set_option maxRecDepth 65536 in
theorem w_c0 : (Jvm.Cond.code x code maxLocals ret).before args0 about1 = true := code_word (m := ⟨1, 2⟩) (meth := k1m2) (c := k1c2) (by decide +kernel) rfl rfl rfl (by decide +kernel)
set_option maxRecDepth 65536 in
theorem w_c1 : (Jvm.Cond.code ({ cls := "com/example/damarium/damarium/position/Move", name := "sameSquares", desc := "([II[III)Z" } : Jvm.MethodName) prog_32_method_11_code (8 : Nat) (Option.some Jvm.ClassFile.FieldType.boolean)).before args0 about1 = true := code_word (m := ⟨3, 0⟩) (meth := k3m0) (c := k3c0) (by decide +kernel) rfl rfl rfl (by decide +kernel)
set_option maxRecDepth 65536 in
theorem w_c2 : (Jvm.Cond.code ({ cls := "com/example/damarium/damarium/position/MoveSameSquaresPinLaw", name := "pos", desc := "(III)I" } : Jvm.MethodName) method_2_code (4 : Nat) (Option.some Jvm.ClassFile.FieldType.int)).before args0 about1 = true := code_word (m := ⟨1, 1⟩) (meth := k1m1) (c := k1c1) (by decide +kernel) rfl rfl rfl (by decide +kernel)
def codes1 : List Jvm.Cond := [Jvm.Cond.code x code maxLocals ret, Jvm.Cond.code ({ cls := "com/example/damarium/damarium/position/Move", name := "sameSquares", desc := "([II[III)Z" } : Jvm.MethodName) prog_32_method_11_code (8 : Nat) (Option.some Jvm.ClassFile.FieldType.boolean), Jvm.Cond.code ({ cls := "com/example/damarium/damarium/position/MoveSameSquaresPinLaw", name := "pos", desc := "(III)I" } : Jvm.MethodName) method_2_code (4 : Nat) (Option.some Jvm.ClassFile.FieldType.int)]
set_option maxRecDepth 65536 in
theorem codes_eq : words1.filter isCode = codes1 := rfl
theorem w_codes : ∀ c ∈ words1.filter isCode, c.before args0 about1 = true := by
  rw [codes_eq]
  intro c hc
  simp only [codes1, List.mem_cons, List.not_mem_nil, or_false] at hc
  rcases hc with rfl | rfl | rfl
  · exact w_c0
  · exact w_c1
  · exact w_c2
set_option maxRecDepth 65536 in
theorem w_t1 : words1.all (fun c => isCode c || c.before args0 about1) = true := by decide +kernel
theorem w_tables : (allAtoms (Jvm.Cond.code x code maxLocals ret :: tables_1)).before args0 about1 = true := by
  rw [allAtoms_all]
  show words1.all (fun c => c.before args0 about1) = true
  refine all_split ?_ w_codes
  rw [w_t1]
set_option maxRecDepth 65536 in
theorem w_case : (Jvm.Cond.and given_1 narrow_1).before args0 about1 = true := by decide +kernel
theorem w_applies : (headSpec (Jvm.Cond.code x code maxLocals ret :: tables_1) room_1).applies x e0.platform about1 = true :=
  (Spec.applies_iff w_frames).mpr ⟨w_running, w_runnable, w_alone, w_named, w_hears, w_ripe, w_room, w_tables⟩
theorem atStart : AtStart classFile x code maxLocals ret World_1 tables_1 room_1 Calls_1 rest_1 Pre_1 launch0 p0 e0 about1 theMethod args0 below0 :=
  ⟨lists_1, trivial, launch0.admits_env _ _ _, launch0.least_env, fairChoices_fair.cas, fairChoices_fair.clock, w_frames, w_args, w_heap, w_applies, trivial, trivial, w_case⟩
end start1
theorem witness_1 : WitnessClaimed_1 := ⟨start1.p0, start1.e0, start1.about1, start1.theMethod, start1.args0, start1.below0, start1.atStart⟩
end Jvm.Pilot.@@N@@
