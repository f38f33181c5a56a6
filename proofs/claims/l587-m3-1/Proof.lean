import JvmDerived
import JvmDerived.Pilot.@@N@@Statement
import JvmDerived.Pilot.@@N@@Code
set_option linter.unusedVariables false
set_option linter.unusedSimpArgs false
namespace Jvm.Pilot.@@N@@
open Jvm Jvm.ClassFile Sem Op Lib Jvm.Free Jvm.Stand Jvm.LawKit Jvm.RoadKit Bundle Jvm.Pilot.@@N@@.Jvm.D
section OwnKit
variable {p : Program} {l : Launch} {e : Env} {R : Room} {s : State} {m : MethodId} {args : Array Value} {below : List Frame} {meth : Method} {c : Code} {T T' : State} {locs : List Loc} {cells slots ck sk : Nat} {Q : Option Value → Heap → List Loc → Prop} {g g' : JFrame}
/-- from the state T with the top frame g the body ends, and Q says how -/
def Goes (p : Program) (e : Env) (below : List Frame) (s : State) (ck sk : Nat) (Q : Option Value → Heap → List Loc → Prop) (T : State) (g : JFrame) : Prop :=
  ∃ s₂ o, Steps p.tables e below (T.setTop g) s₂ ∧ s₂.status = .running ∧ Ended s₂ below o ∧ ∃ v L, o = .returned v ∧ Q v s₂.heap L ∧ FrameEnd s o s₂ L ck sk
theorem go (h : ∀ t, Steps p.tables e below (T'.setTop g') t → Steps p.tables e below (T.setTop g) t) (k : Goes p e below s ck sk Q T' g') : Goes p e below s ck sk Q T g := by
  obtain ⟨s₂, o, h1, r⟩ := k
  exact ⟨s₂, o, h _ h1, r⟩
theorem goV (h : Steps p.tables e below (T.setTop g) (T'.setTop g')) (k : Goes p e below s ck sk Q T' g') : Goes p e below s ck sk Q T g := go (fun _ kt => h.trans kt) k
theorem goEq (h : g = g') (k : Goes p e below s ck sk Q T g') : Goes p e below s ck sk Q T g := h ▸ k
theorem goVia {T₂ : State} {g₂ : JFrame} (h : Goes p e below s ck sk Q T₂ g₂ → Goes p e below s ck sk Q T g) (k : Goes p e below s ck sk Q T₂ g₂) : Goes p e below s ck sk Q T g := h k
theorem goRetN (X : Stand p l e R s m args below meth c T locs cells slots) (hx : p.tables.exec = Jvm.exec) (hlk : meth.locks = false) {pc : Nat} {Ls : Array Slot} {z : Int32} {t : FieldType} {rest : List Value} (hret : meth.sig.returnType = some t) (ht : t = .boolean ∨ t = .byte ∨ t = .char ∨ t = .short) (hd : decode c.code pc = .ok (.ireturn, 1))
    (hq : Q (some (.int (nar t z))) T.heap locs) (h1 : cells ≤ ck) (h2 : slots ≤ sk) : Goes p e below s ck sk Q T (mkF m pc Ls (.int z :: rest)) := by
  obtain ⟨fs, hr, hrun, hended, hW, hsame⟩ := X.leave (v := some (.int (nar t z))) (fun h => by rw [hret] at h; cases h)
  exact ⟨_, _, retN X hx hret ht hd hr, hrun, hended, _, _, rfl, hq, ⟨_, rfl⟩, hW, hsame.mono h1 h2⟩
theorem goRetI (X : Stand p l e R s m args below meth c T locs cells slots) (hx : p.tables.exec = Jvm.exec) (hlk : meth.locks = false) {pc : Nat} {Ls : Array Slot} {z : Int32} {rest : List Value} (hret : meth.sig.returnType = some .int) (hd : decode c.code pc = .ok (.ireturn, 1))
    (hq : Q (some (.int z)) T.heap locs) (h1 : cells ≤ ck) (h2 : slots ≤ sk) : Goes p e below s ck sk Q T (mkF m pc Ls (.int z :: rest)) := by
  obtain ⟨fs, hr, hrun, hended, hW, hsame⟩ := X.leave (v := some (.int z)) (fun h => by rw [hret] at h; cases h)
  exact ⟨_, _, retOut X hx hret rfl (Or.inl ⟨rfl, Or.inl rfl, z, rfl⟩) hd hr, hrun, hended, _, _, rfl, hq, ⟨_, rfl⟩, hW, hsame.mono h1 h2⟩
theorem goRetJ (X : Stand p l e R s m args below meth c T locs cells slots) (hx : p.tables.exec = Jvm.exec) (hlk : meth.locks = false) {pc : Nat} {Ls : Array Slot} {z : Int64} {rest : List Value} (hret : meth.sig.returnType = some .long) (hd : decode c.code pc = .ok (.lreturn, 1))
    (hq : Q (some (.long z)) T.heap locs) (h1 : cells ≤ ck) (h2 : slots ≤ sk) : Goes p e below s ck sk Q T (mkF m pc Ls (.long z :: rest)) := by
  obtain ⟨fs, hr, hrun, hended, hW, hsame⟩ := X.leave (v := some (.long z)) (fun h => by rw [hret] at h; cases h)
  exact ⟨_, _, retOut X hx hret rfl (Or.inr (Or.inl ⟨rfl, rfl, z, rfl⟩)) hd hr, hrun, hended, _, _, rfl, hq, ⟨_, rfl⟩, hW, hsame.mono h1 h2⟩
theorem goRetA (X : Stand p l e R s m args below meth c T locs cells slots) (hx : p.tables.exec = Jvm.exec) (hlk : meth.locks = false) {pc : Nat} {Ls : Array Slot} {w : Value} {t : FieldType} {rest : List Value} (hret : meth.sig.returnType = some t) (ht : t.isReference = true) (hn : narrow t w = w) (hw : w.isRef = true) (hd : decode c.code pc = .ok (.areturn, 1))
    (hq : Q (some w) T.heap locs) (h1 : cells ≤ ck) (h2 : slots ≤ sk) : Goes p e below s ck sk Q T (mkF m pc Ls (w :: rest)) := by
  obtain ⟨fs, hr, hrun, hended, hW, hsame⟩ := X.leave (v := some w) (fun h => by rw [hret] at h; cases h)
  exact ⟨_, _, retOut X hx hret hn (Or.inr (Or.inr (Or.inr (Or.inr ⟨rfl, ht, hw⟩)))) hd hr, hrun, hended, _, _, rfl, hq, ⟨_, rfl⟩, hW, hsame.mono h1 h2⟩
theorem goRetV (X : Stand p l e R s m args below meth c T locs cells slots) (hx : p.tables.exec = Jvm.exec) (hlk : meth.locks = false) {pc : Nat} {Ls : Array Slot} (hret : meth.sig.returnType = none) (hd : decode c.code pc = .ok (.return_, 1))
    (hq : Q none T.heap locs) (h1 : cells ≤ ck) (h2 : slots ≤ sk) : Goes p e below s ck sk Q T (mkF m pc Ls []) := by
  obtain ⟨fs, hr, hrun, hended, hW, hsame⟩ := X.leave (v := none) (fun _ => rfl)
  exact ⟨_, _, X.returnOut hx hret hd hr, hrun, hended, _, _, rfl, hq, ⟨_, rfl⟩, hW, hsame.mono h1 h2⟩
theorem own_l0 {x y : Int64} (h : x = y) : ifCond.holds .eq (lcmpW x y) = true ∧ ifCond.holds .ne (lcmpW x y) = false := by rw [if0, if0]; exact teq ((lw_eq x y).mpr h)
theorem own_l1 {x y : Int64} (h : ¬ x = y) : ifCond.holds .eq (lcmpW x y) = false ∧ ifCond.holds .ne (lcmpW x y) = true := by rw [if0, if0]; exact feq fun q => h ((lw_eq x y).mp q)
theorem own_l2 {x y : Int64} (h : x < y) : ifCond.holds .lt (lcmpW x y) = true ∧ ifCond.holds .ge (lcmpW x y) = false := by rw [if0, if0]; exact ⟨(tlt ((lw_lt x y).mpr h)).1, (tlt ((lw_lt x y).mpr h)).2.1⟩
theorem own_l3 {x y : Int64} (h : ¬ x < y) : ifCond.holds .lt (lcmpW x y) = false ∧ ifCond.holds .ge (lcmpW x y) = true := by
  rw [if0, if0]
  have q : ¬ lcmpW x y < 0 := fun q => h ((lw_lt x y).mp q)
  exact ⟨(flt q).1, (flt q).2.1⟩
theorem own_l4 {x y : Int64} (h : y < x) : ifCond.holds .gt (lcmpW x y) = true ∧ ifCond.holds .le (lcmpW x y) = false := by rw [if0, if0]; exact ⟨(tlt ((lw_gt x y).mpr h)).2.2.1, (tlt ((lw_gt x y).mpr h)).2.2.2⟩
theorem own_l5 {x y : Int64} (h : ¬ y < x) : ifCond.holds .gt (lcmpW x y) = false ∧ ifCond.holds .le (lcmpW x y) = true := by
  rw [if0, if0]
  have q : ¬ 0 < lcmpW x y := fun q => h ((lw_gt x y).mp q)
  exact ⟨(flt q).2.2.1, (flt q).2.2.2⟩
def Two (a b : Slot) : Prop := (a = .unset ∧ b = .unset) ∨ ∃ w, a = .val (.long w) ∧ b = .second
theorem Two.u : Two .unset .unset := Or.inl ⟨rfl, rfl⟩
theorem Two.val {w : Int64} : Two (.val (.long w)) .second := Or.inr ⟨w, rfl, rfl⟩
end OwnKit
theorem nn_toInt {i : Nat} (h : i < 2 ^ 31) : (Int32.ofNat i).toInt = i := Int32.toInt_ofNat_of_lt h
theorem nn_nat {i : Nat} (h : i < 2 ^ 31) : (Int32.ofNat i).toNatClampNeg = i := by
  simp only [Int32.toNatClampNeg, nn_toInt h]; rfl
theorem nn_lt {i j : Nat} (hi : i < 2 ^ 31) (hj : j < 2 ^ 31) : Int32.ofNat i < Int32.ofNat j ↔ i < j := by
  rw [Int32.lt_iff_toInt_lt, nn_toInt hi, nn_toInt hj]; omega
theorem nn_eq {i j : Nat} (hi : i < 2 ^ 31) (hj : j < 2 ^ 31) : Int32.ofNat i = Int32.ofNat j ↔ i = j := by
  rw [← Int32.toInt_inj, nn_toInt hi, nn_toInt hj]; omega
theorem nn_add (i j : Nat) : Int32.ofNat i + Int32.ofNat j = Int32.ofNat (i + j) := (Int32.ofNat_add i j).symm
theorem nn_mul (i j : Nat) : Int32.ofNat i * Int32.ofNat j = Int32.ofNat (i * j) := (Int32.ofNat_mul i j).symm
theorem nn_sub {i j : Nat} (h : j ≤ i) : Int32.ofNat i - Int32.ofNat j = Int32.ofNat (i - j) := by
  rw [Int32.sub_eq_iff_eq_add, nn_add, Nat.sub_add_cancel h]
theorem nn_of {x : Int32} (h : 0 ≤ x.toInt) : x = Int32.ofNat x.toInt.toNat := by
  apply Int32.toInt_inj.mp
  have := x.toInt_lt
  rw [nn_toInt (by omega)]; omega
theorem nn_neg {i : Nat} (hi : i < 2 ^ 31) : ¬ Int32.ofNat i < 0 := by
  intro q; have q := Int32.lt_iff_toInt_lt.mp q; rw [nn_toInt hi] at q; simp at q; omega
theorem own_and31 (x : Int32) : 0 ≤ (x &&& 2147483647).toInt := by
  have h : (x &&& 2147483647).toBitVec.msb = false := by
    show (x.toBitVec &&& 2147483647#32).msb = false
    rw [BitVec.msb_and, show (2147483647#32).msb = false from by decide, Bool.and_false]
  show 0 ≤ (x &&& 2147483647).toBitVec.toInt
  rw [BitVec.toInt_eq_msb_cond, h]; simp
theorem nn_rem {x : Int32} (h : 0 ≤ x.toInt) {k : Nat} (hk : 0 < k) (hk2 : k < 2 ^ 31) : ∃ i, i < k ∧ x % Int32.ofNat k = Int32.ofNat i := by
  have e : (x % Int32.ofNat k).toInt = x.toInt.tmod k := by rw [Int32.toInt_mod, nn_toInt hk2]
  have h1 : 0 ≤ x.toInt.tmod k := Int.tmod_nonneg _ h
  have h2 : x.toInt.tmod k < k := Int.tmod_lt_of_pos _ (by omega)
  refine ⟨(x % Int32.ofNat k).toInt.toNat, by omega, nn_of (by omega)⟩
theorem own_mask64 (x : Int64) : 0 ≤ (x &&& 9223372036854775807).toInt := by
  have h : (x &&& 9223372036854775807).toBitVec.msb = false := by
    show (x.toBitVec &&& 9223372036854775807#64).msb = false
    rw [BitVec.msb_and, show (9223372036854775807#64).msb = false from by decide, Bool.and_false]
  show 0 ≤ (x &&& 9223372036854775807).toBitVec.toInt
  rw [BitVec.toInt_eq_msb_cond, h]; simp
theorem own_and7 (x : Int32) : ∃ i, i < 8 ∧ x &&& 7 = Int32.ofNat i := by
  refine ⟨(x &&& 7).toBitVec.toNat, ?_, ?_⟩
  · show (x.toBitVec &&& 7#32).toNat < 8
    rw [BitVec.toNat_and]; exact Nat.lt_of_le_of_lt Nat.and_le_right (by decide)
  · apply Int32.toBitVec_inj.mp
    show _ = BitVec.ofNat 32 _
    rw [BitVec.ofNat_toNat, BitVec.setWidth_eq]
theorem own_andk (x : Int32) {k : Nat} (hk : k < 2 ^ 32) : ∃ i, i ≤ k ∧ x &&& Int32.ofNat k = Int32.ofNat i := by
  refine ⟨(x &&& Int32.ofNat k).toBitVec.toNat, ?_, ?_⟩
  · show (x.toBitVec &&& BitVec.ofNat 32 k).toNat ≤ k
    rw [BitVec.toNat_and, BitVec.toNat_ofNat, Nat.mod_eq_of_lt hk]; exact Nat.and_le_right
  · apply Int32.toBitVec_inj.mp
    show _ = BitVec.ofNat 32 _
    rw [BitVec.ofNat_toNat, BitVec.setWidth_eq]
def own_max (x y : Int64) : Int64 := if x < y then y else x
def own_raw (q : Int64) : Int64 := own_max 1 ((q * 24 + 512 - 1) / 512)
theorem own_and31L (x : Int64) : ∃ j : Fin 32, x &&& 31 = Int64.ofNat j.val := by
  have h : (x.toBitVec &&& 31#64).toNat < 32 := by
    rw [BitVec.toNat_and]; exact Nat.lt_of_le_of_lt Nat.and_le_right (by decide)
  refine ⟨⟨(x.toBitVec &&& 31#64).toNat, h⟩, ?_⟩
  apply Int64.toBitVec_inj.mp
  show x.toBitVec &&& 31#64 = BitVec.ofNat 64 _
  rw [BitVec.ofNat_toNat, BitVec.setWidth_eq]
theorem own_rawAll : ∀ j : Fin 32, (own_raw (Int64.ofNat j.val)).toInt32.toInt64 = own_raw (Int64.ofNat j.val) ∧ ((own_raw (Int64.ofNat j.val)).toInt32 = 1 ∨ (own_raw (Int64.ofNat j.val)).toInt32 = 2) := by decide +kernel
theorem own_rawK (x : Int64) : (own_raw (x &&& 31)).toInt32.toInt64 = own_raw (x &&& 31) ∧ ((own_raw (x &&& 31)).toInt32 = 1 ∨ (own_raw (x &&& 31)).toInt32 = 2) := by
  obtain ⟨j, e⟩ := own_and31L x
  rw [e]; exact own_rawAll j
def own_by (n f : Int32) : Int64 := n.toInt64 * (if f = 0 then (64 : Int32) else 72).toInt64
theorem own_by0 (n : Int32) : own_by n 0 = n.toInt64 * 8 * 8 := by
  rw [Int64.mul_assoc]; rfl
theorem own_by1 (n : Int32) : own_by n 1 = n.toInt64 * 9 * 8 := by
  rw [Int64.mul_assoc]; rfl
section OwnArr
variable {p : Program} {l : Launch} {e : Env} {R : Room} {s : State} {m : MethodId} {args : Array Value} {below : List Frame} {meth : Method} {c : Code} {T : State} {locs : List Loc} {cells slots : Nat} {Z : State} {h h' : Heap} {a b : Addr} {v : Value} {sl : Nat} {ty : FieldType} {n : Int32} {f f' : Nat → Value} {ws : List Addr}
/-- an array of n places: place i holds f i -/
def Aw (Z : State) (h : Heap) (a : Addr) (ty : FieldType) (n : Int32) (f : Nat → Value) : Prop := ∃ c : Cell, Arr Z h a c ty ∧ c.slots.size = n.toNatClampNeg ∧ ¬ n < 0 ∧ (∀ i, i < c.slots.size → c.slots[i]? = some (f i)) ∧ ∀ i, i < c.slots.size → fits ty (f i) = true
def upd (f : Nat → Value) (j : Nat) (v : Value) : Nat → Value := fun i => if i = j then v else f i
theorem Aw.lt (F : Aw Z h a ty n f) : a < h.size := by obtain ⟨c, A, -⟩ := F; exact A.lt
theorem Aw.ext (F : Aw Z h a ty n f) (E : Ext h h') : Aw Z h' a ty n f := by obtain ⟨c, A, r⟩ := F; exact ⟨c, A.ext E, r⟩
theorem Aw.other (F : Aw Z h b ty n f) (W : Wr h h' a sl v) (q : b ≠ a) : Aw Z h' b ty n f := by obtain ⟨c, A, r⟩ := F; exact ⟨c, A.other W q, r⟩
theorem Aw.keep (F : Aw Z h a ty n f) (K : Keep h h' ws) (q : a ∉ ws) : Aw Z h' a ty n f := by obtain ⟨c, A, r⟩ := F; exact ⟨c, ⟨K.2.1 a c A.1 q, A.2⟩, r⟩
theorem Aw.new {k : ClassId} (A : Arr Z h a (newA k ty n) ty) (q : ¬ n < 0) : Aw Z h a ty n (fun _ => defaultValue ty) := ⟨_, A, sz_new _ _ _, q, fun i hi => by rw [sz_new] at hi; simp [newA, hi], fun i _ => by cases ty <;> rfl⟩
theorem Aw.set (F : Aw Z h a ty n f) {j : Nat} (W : Wr h h' a j v) (hv : fits ty v = true) : Aw Z h' a ty n (upd f j v) := by
  obtain ⟨c, A, S, N, H, G⟩ := F
  refine ⟨_, A.same W, by rw [sz_set]; exact S, N, fun i hi => ?_, fun i hi => ?_⟩ <;> rw [sz_set] at hi <;> unfold upd <;> split
  · rename_i q; subst q; simp [Cell.setSlot, hi]
  · rename_i q; simp only [Cell.setSlot]; rw [Array.getElem?_setIfInBounds_ne (Ne.symm q)]; exact H i hi
  · exact hv
  · exact G i hi
theorem Aw.congr (F : Aw Z h a ty n f) (q : ∀ i, i < n.toNatClampNeg → f' i = f i) : Aw Z h a ty n f' := by
  obtain ⟨c, A, S, N, H, G⟩ := F
  exact ⟨c, A, S, N, fun i hi => by rw [q i (S ▸ hi)]; exact H i hi, fun i hi => by rw [q i (S ▸ hi)]; exact G i hi⟩
theorem Aw.nn (F : Aw Z h a ty n f) : ¬ n < 0 := by obtain ⟨c, A, S, N, -⟩ := F; exact N
theorem own_stI (X : Stand p l e R s m args below meth c T locs cells slots) (hx : p.tables.exec = Jvm.exec) (hZ : Z.Warmed39 s.vm) (eT : T.heap = h) (F : Aw Z h a .int n f) {j x : Int32} (hj : ¬ j < 0 ∧ j < n) {g : JFrame} (hg : g.method = m) {rest : List Value} (hs : g.stack = .int x :: .int j :: .ref a :: rest) (hd : decode c.code g.pc = .ok (.iastore, 1)) :
    ∃ T' h', Stand p l e R s m args below meth c T' (locs ++ [⟨a, j.toNatClampNeg⟩]) cells slots ∧ T'.heap = h' ∧ Wr h h' a j.toNatClampNeg (.int x) ∧ Aw Z h' a .int n (upd f j.toNatClampNeg (.int x)) ∧ ∀ target, Steps p.tables e below (T'.setTop { g with pc := g.pc + 1, stack := rest }) target → Steps p.tables e below (T.setTop g) target := by
  obtain ⟨cl, A, S, r⟩ := F
  obtain ⟨T', h', X', e', W, st⟩ := stI X hx hZ eT A (inb_of S hj) hg hs hd
  exact ⟨T', h', X', e', W, Aw.set ⟨cl, A, S, r⟩ W rfl, st⟩
theorem own_stJ (X : Stand p l e R s m args below meth c T locs cells slots) (hx : p.tables.exec = Jvm.exec) (hZ : Z.Warmed39 s.vm) (eT : T.heap = h) (F : Aw Z h a .long n f) {j : Int32} {x : Int64} (hj : ¬ j < 0 ∧ j < n) {g : JFrame} (hg : g.method = m) {rest : List Value} (hs : g.stack = .long x :: .int j :: .ref a :: rest) (hd : decode c.code g.pc = .ok (.lastore, 1)) :
    ∃ T' h', Stand p l e R s m args below meth c T' (locs ++ [⟨a, j.toNatClampNeg⟩]) cells slots ∧ T'.heap = h' ∧ Wr h h' a j.toNatClampNeg (.long x) ∧ Aw Z h' a .long n (upd f j.toNatClampNeg (.long x)) ∧ ∀ target, Steps p.tables e below (T'.setTop { g with pc := g.pc + 1, stack := rest }) target → Steps p.tables e below (T.setTop g) target := by
  obtain ⟨cl, A, S, r⟩ := F
  obtain ⟨T', h', X', e', W, st⟩ := stJ X hx hZ eT A (inb_of S hj) hg hs hd
  exact ⟨T', h', X', e', W, Aw.set ⟨cl, A, S, r⟩ W rfl, st⟩
theorem own_stB (X : Stand p l e R s m args below meth c T locs cells slots) (hx : p.tables.exec = Jvm.exec) (hZ : Z.Warmed39 s.vm) (eT : T.heap = h) (F : Aw Z h a .byte n f) {j x : Int32} (hj : ¬ j < 0 ∧ j < n) {g : JFrame} (hg : g.method = m) {rest : List Value} (hs : g.stack = .int x :: .int j :: .ref a :: rest) (hd : decode c.code g.pc = .ok (.bastore, 1)) :
    ∃ T' h', Stand p l e R s m args below meth c T' (locs ++ [⟨a, j.toNatClampNeg⟩]) cells slots ∧ T'.heap = h' ∧ Wr h h' a j.toNatClampNeg (.int x.toInt8.toInt32) ∧ Aw Z h' a .byte n (upd f j.toNatClampNeg (.int x.toInt8.toInt32)) ∧ ∀ target, Steps p.tables e below (T'.setTop { g with pc := g.pc + 1, stack := rest }) target → Steps p.tables e below (T.setTop g) target := by
  obtain ⟨cl, A, S, r⟩ := F
  obtain ⟨T', h', X', e', W, st⟩ := stB X hx hZ eT A (inb_of S hj) hg hs hd
  exact ⟨T', h', X', e', W, Aw.set ⟨cl, A, S, r⟩ W (fits_nar_byte _), st⟩
theorem own_len (X : Stand p l e R s m args below meth c T locs cells slots) (hx : p.tables.exec = Jvm.exec) (hZ : Z.Warmed39 s.vm) (eT : T.heap = h) (F : Aw Z h a ty n f) {g : JFrame} (hg : g.method = m) {rest : List Value} (hs : g.stack = .ref a :: rest) (hd : decode c.code g.pc = .ok (.arraylength, 1)) (target : State)
    (k : Steps p.tables e below (T.setTop { g with pc := g.pc + 1, stack := .int n :: rest }) target) : Steps p.tables e below (T.setTop g) target := by
  obtain ⟨cl, A, S, N, -⟩ := F
  refine X.arraylength hx (by rw [eT]; exact A.1) (State.isArrayOf_alike hZ.alike A.2.1) hg hs hd _ ?_
  rw [len_of S N]; exact k
theorem own_ldI (X : Stand p l e R s m args below meth c T locs cells slots) (hx : p.tables.exec = Jvm.exec) (hZ : Z.Warmed39 s.vm) (eT : T.heap = h) (F : Aw Z h a .int n f) {j : Int32} (hj : ¬ j < 0 ∧ j < n) (hv : f j.toNatClampNeg = v) {g : JFrame} (hg : g.method = m) {rest : List Value} (hs : g.stack = .int j :: .ref a :: rest) (hd : decode c.code g.pc = .ok (.iaload, 1)) (target : State)
    (k : Steps p.tables e below (T.setTop { g with pc := g.pc + 1, stack := v :: rest }) target) : Steps p.tables e below (T.setTop g) target := by
  obtain ⟨cl, A, S, N, H, -⟩ := F
  have hin := inb_of S hj
  exact X.iaload hx (by rw [eT]; exact A.1) (State.isArrayOf_alike hZ.alike A.2.1) A.2.2 hin (hv ▸ H _ (Nat.lt_of_not_le fun q => hin (Or.inr q))) hg hs hd _ k
theorem own_ldJ (X : Stand p l e R s m args below meth c T locs cells slots) (hx : p.tables.exec = Jvm.exec) (hZ : Z.Warmed39 s.vm) (eT : T.heap = h) (F : Aw Z h a .long n f) {j : Int32} (hj : ¬ j < 0 ∧ j < n) (hv : f j.toNatClampNeg = v) {g : JFrame} (hg : g.method = m) {rest : List Value} (hs : g.stack = .int j :: .ref a :: rest) (hd : decode c.code g.pc = .ok (.laload, 1)) (target : State)
    (k : Steps p.tables e below (T.setTop { g with pc := g.pc + 1, stack := v :: rest }) target) : Steps p.tables e below (T.setTop g) target := by
  obtain ⟨cl, A, S, N, H, -⟩ := F
  have hin := inb_of S hj
  exact X.laload hx (by rw [eT]; exact A.1) (State.isArrayOf_alike hZ.alike A.2.1) A.2.2 hin (hv ▸ H _ (Nat.lt_of_not_le fun q => hin (Or.inr q))) hg hs hd _ k
theorem own_ldB (X : Stand p l e R s m args below meth c T locs cells slots) (hx : p.tables.exec = Jvm.exec) (hZ : Z.Warmed39 s.vm) (eT : T.heap = h) (F : Aw Z h a .byte n f) {j : Int32} (hj : ¬ j < 0 ∧ j < n) (hv : f j.toNatClampNeg = v) {g : JFrame} (hg : g.method = m) {rest : List Value} (hs : g.stack = .int j :: .ref a :: rest) (hd : decode c.code g.pc = .ok (.baload, 1)) (target : State)
    (k : Steps p.tables e below (T.setTop { g with pc := g.pc + 1, stack := v :: rest }) target) : Steps p.tables e below (T.setTop g) target := by
  obtain ⟨cl, A, S, N, H, -⟩ := F
  have hin := inb_of S hj
  exact X.baloadBytes hx (by rw [eT]; exact A.1) (State.isArrayOf_alike hZ.alike A.2.1) A.2.2 hin (hv ▸ H _ (Nat.lt_of_not_le fun q => hin (Or.inr q))) hg hs hd _ k
end OwnArr
theorem mvN' {Z s : State} {a0 args : Array Value} {own host : String} {index : Nat} {y : MethodName} (hZ : Z.Warmed39 s.vm) (w : (Jvm.Cond.methodLinkNest own index y host).before a0 Z = true) : (Jvm.Cond.methodLinkNest own index y host).before args s = true := (Cond.methodLinkNest_wide hZ w :)
theorem own_ne10 : ¬ ((1 : Int32) = 0) := by decide

theorem d1_0 : decode prog_55_method_3_code 0 = .ok (.iload_n 0, 1) := by decide +kernel
theorem d1_1 : decode prog_55_method_3_code 1 = .ok (.i2l, 1) := by decide +kernel
theorem d1_2 : decode prog_55_method_3_code 2 = .ok (.iload_n 1, 1) := by decide +kernel
theorem d1_3 : decode prog_55_method_3_code 3 = .ok (.ifCond .eq 8, 3) := by decide +kernel
theorem d1_6 : decode prog_55_method_3_code 6 = .ok (.bipush 72, 2) := by decide +kernel
theorem d1_8 : decode prog_55_method_3_code 8 = .ok (.goto 5, 3) := by decide +kernel
theorem d1_11 : decode prog_55_method_3_code 11 = .ok (.bipush 64, 2) := by decide +kernel
theorem d1_13 : decode prog_55_method_3_code 13 = .ok (.i2l, 1) := by decide +kernel
theorem d1_14 : decode prog_55_method_3_code 14 = .ok (.lmul, 1) := by decide +kernel
theorem d1_15 : decode prog_55_method_3_code 15 = .ok (.lreturn, 1) := by decide +kernel
theorem pn_1 : plainName "com/example/tallyward/tallyward/io/KeyFilter" = true := by first | (simp [plainName, overriddenIn]; done) | decide +kernel
theorem ef_1 (m : MethodId) (p1 : Int32) (p2 : Int32) : entryFrame m #[(.int p1), (.int p2)] 2 = mkF m 0 #[.val (.int p1), .val (.int p2)] [] := by first | (simp [entryFrame, mkF, argsToLocals, Value.category]; done) | rfl
def Q1 (Z : State) (p1 : Int32) (p2 : Int32) (h0 : Heap) (n0 : Nat) (v : Option Value) (h : Heap) (L : List Loc) : Prop := v = some (.long (own_by p1 p2)) ∧ Fr n0 L ∧ h = h0
set_option maxRecDepth 65536 in
set_option maxHeartbeats 40000000 in
theorem rm1 (l : Launch) (Z : State) (a0 : Array Value) (hw : ∀ d ∈ tables_1, d.before a0 Z = true) (ws : List Jvm.Cond) (p1 : Int32) (p2 : Int32) (h0 : Heap) (n0 : Nat) (Z0 : n0 ≤ h0.size)  :
    MetFree l (⟨"com/example/tallyward/tallyward/io/KeyFilter", "bytes", "(IZ)J"⟩ : MethodName) (head1 (Jvm.Cond.code (⟨"com/example/tallyward/tallyward/io/KeyFilter", "bytes", "(IZ)J"⟩ : MethodName) prog_55_method_3_code 2 (some .long) :: ws) ({ frames := 0, cells := 0, slots := 0, locals := 0 } : Room)) (fun a U => a = #[(.int p1), (.int p2)] ∧ Z.Warmed39 U.vm ∧ U.heap = h0) (fun _ _ _ _ _ => True) (fun _ U o U' => ∃ v L, o = .returned v ∧ Q1 Z p1 p2 h0 n0 v U'.heap L ∧ FrameEnd U o U' L ({ frames := 0, cells := 0, slots := 0, locals := 0 } : Room).cells ({ frames := 0, cells := 0, slots := 0, locals := 0 } : Room).slots) := by
  refine MetFree.of_bodySF (plainFor_of_name pn_1) hisR ?_
  intro p e s m args below meth c s₁ Bd hml0 hP hK
  obtain ⟨rfl, hZ, hh⟩ := hP
  have hx := Bd.exec
  have hby := Bd.bytes
  have hlk := Bd.notSynchronized
  have hml : c.maxLocals = 2 := hml0
  have hown : s.vm.findClass "com/example/tallyward/tallyward/io/KeyFilter" = some m.cls := findClass_of_methodNamed Bd.named
  have hnm := (name_of_methodNamed Bd.named Bd.method).1
  have X0 : Stand p l e ({ frames := 0, cells := 0, slots := 0, locals := 0 } : Room) s m #[(.int p1), (.int p2)] below meth c s₁ [] 0 0 := Stand.of_body Bd
  have e0 : s₁.heap = h0 := by rw [← hh, Bd.state]; rfl
  have N0 := Fr.nil n0
  show Goes p e below s 0 0 (Q1 Z p1 p2 h0 n0) s₁ (entryFrame m #[(.int p1), (.int p2)] 2)
  refine goEq (ef_1 m p1 p2) ?_
  refine go (T' := s₁) (g' := (mkF m 1 #[.val (.int p1), .val (.int p2)] [(.int p1)])) (fun t kt => XS.iloadN X0.here hx rfl (hb hby d1_0) rfl kt) ?_
  refine go (T' := s₁) (g' := (mkF m 2 #[.val (.int p1), .val (.int p2)] [(.long (p1.toInt64))])) (fun t kt => XS.i2l X0.here hx rfl (hb hby d1_1) rfl kt) ?_
  refine go (T' := s₁) (g' := (mkF m 3 #[.val (.int p1), .val (.int p2)] [(.int p2), (.long (p1.toInt64))])) (fun t kt => XS.iloadN X0.here hx rfl (hb hby d1_2) rfl kt) ?_
  by_cases hc : p2 = (0 : Int32)
  · refine go (T' := s₁) (g' := (mkF m 11 #[.val (.int p1), .val (.int p2)] [(.long (p1.toInt64))])) (fun t kt => XS.ifYes X0.here hx rfl (pc0 := 3) (pc' := 11) rfl (hb hby d1_3) rfl ((if0 _ _).trans (teq hc).1) (by decide) (by decide) kt) ?_
    refine go (T' := s₁) (g' := (mkF m 13 #[.val (.int p1), .val (.int p2)] [(.int (64 : Int32)), (.long (p1.toInt64))])) (fun t kt => XS.bipush X0.here hx rfl (hb hby d1_11) kt) ?_
    refine go (T' := s₁) (g' := (mkF m 14 #[.val (.int p1), .val (.int p2)] [(.long ((64 : Int32).toInt64)), (.long (p1.toInt64))])) (fun t kt => XS.i2l X0.here hx rfl (hb hby d1_13) rfl kt) ?_
    refine go (T' := s₁) (g' := (mkF m 15 #[.val (.int p1), .val (.int p2)] [(.long ((p1.toInt64) * ((64 : Int32).toInt64)))])) (fun t kt => XS.lmul X0.here hx rfl (hb hby d1_14) rfl kt) ?_
    refine goRetJ X0 hx hlk Bd.returns (hb hby d1_15) ?_ (by decide) (by decide)
    rw [e0]
    exact ⟨by rw [own_by, if_pos hc], N0, rfl⟩
  · refine go (T' := s₁) (g' := (mkF m 6 #[.val (.int p1), .val (.int p2)] [(.long (p1.toInt64))])) (fun t kt => XS.ifNo X0.here hx rfl (hb hby d1_3) rfl ((if0 _ _).trans (feq hc).1) kt) ?_
    refine go (T' := s₁) (g' := (mkF m 8 #[.val (.int p1), .val (.int p2)] [(.int (72 : Int32)), (.long (p1.toInt64))])) (fun t kt => XS.bipush X0.here hx rfl (hb hby d1_6) kt) ?_
    refine go (T' := s₁) (g' := (mkF m 13 #[.val (.int p1), .val (.int p2)] [(.int (72 : Int32)), (.long (p1.toInt64))])) (fun t kt => XS.goto X0.here hx rfl (pc0 := 8) (pc' := 13) rfl (hb hby d1_8) (by decide) (by decide) kt) ?_
    refine go (T' := s₁) (g' := (mkF m 14 #[.val (.int p1), .val (.int p2)] [(.long ((72 : Int32).toInt64)), (.long (p1.toInt64))])) (fun t kt => XS.i2l X0.here hx rfl (hb hby d1_13) rfl kt) ?_
    refine go (T' := s₁) (g' := (mkF m 15 #[.val (.int p1), .val (.int p2)] [(.long ((p1.toInt64) * ((72 : Int32).toInt64)))])) (fun t kt => XS.lmul X0.here hx rfl (hb hby d1_14) rfl kt) ?_
    refine goRetJ X0 hx hlk Bd.returns (hb hby d1_15) ?_ (by decide) (by decide)
    rw [e0]
    exact ⟨by rw [own_by, if_neg hc], N0, rfl⟩
theorem d5_0 : decode jdk_29_method_66_code 0 = .ok (.lload_n 0, 1) := by decide +kernel
theorem d5_1 : decode jdk_29_method_66_code 1 = .ok (.lload_n 2, 1) := by decide +kernel
theorem d5_2 : decode jdk_29_method_66_code 2 = .ok (.lcmp, 1) := by decide +kernel
theorem d5_3 : decode jdk_29_method_66_code 3 = .ok (.ifCond .lt 7, 3) := by decide +kernel
theorem d5_6 : decode jdk_29_method_66_code 6 = .ok (.lload_n 0, 1) := by decide +kernel
theorem d5_7 : decode jdk_29_method_66_code 7 = .ok (.goto 4, 3) := by decide +kernel
theorem d5_10 : decode jdk_29_method_66_code 10 = .ok (.lload_n 2, 1) := by decide +kernel
theorem d5_11 : decode jdk_29_method_66_code 11 = .ok (.lreturn, 1) := by decide +kernel
theorem ef_5 (m : MethodId) (q1 : Int64) (q2 : Int64) : entryFrame m #[(.long q1), (.long q2)] 4 = mkF m 0 #[.val (.long q1), .second, .val (.long q2), .second] [] := by first | (simp [entryFrame, mkF, argsToLocals, Value.category]; done) | rfl
def Q5 (Z : State) (q1 : Int64) (q2 : Int64) (h0 : Heap) (n0 : Nat) (v : Option Value) (h : Heap) (L : List Loc) : Prop := v = some (.long (own_max q1 q2)) ∧ Fr n0 L ∧ h = h0
set_option maxRecDepth 65536 in
set_option maxHeartbeats 40000000 in
theorem rm5 (l : Launch) (Z : State) (a0 : Array Value) (hw : ∀ d ∈ tables_1, d.before a0 Z = true) (ws : List Jvm.Cond) (q1 : Int64) (q2 : Int64) (h0 : Heap) (n0 : Nat) (Z0 : n0 ≤ h0.size)  :
    MetFree l (⟨"java/lang/Math", "max", "(JJ)J"⟩ : MethodName) (head1 (Jvm.Cond.code (⟨"java/lang/Math", "max", "(JJ)J"⟩ : MethodName) jdk_29_method_66_code 4 (some .long) :: ws) ({ frames := 0, cells := 0, slots := 0, locals := 0 } : Room)) (fun a U => a = #[(.long q1), (.long q2)] ∧ Z.Warmed39 U.vm ∧ U.heap = h0) (fun _ _ _ _ _ => True) (fun _ U o U' => ∃ v L, o = .returned v ∧ Q5 Z q1 q2 h0 n0 v U'.heap L ∧ FrameEnd U o U' L ({ frames := 0, cells := 0, slots := 0, locals := 0 } : Room).cells ({ frames := 0, cells := 0, slots := 0, locals := 0 } : Room).slots) := by
  refine MetFree.of_bodySF (Jvm.Free.JP.mathPlain rfl (by decide +kernel)) hisR ?_
  intro p e s m args below meth c s₁ Bd hml0 hP hK
  obtain ⟨rfl, hZ, hh⟩ := hP
  have hx := Bd.exec
  have hby := Bd.bytes
  have hlk := Bd.notSynchronized
  have hml : c.maxLocals = 4 := hml0
  have hown : s.vm.findClass "java/lang/Math" = some m.cls := findClass_of_methodNamed Bd.named
  have hnm := (name_of_methodNamed Bd.named Bd.method).1
  have X0 : Stand p l e ({ frames := 0, cells := 0, slots := 0, locals := 0 } : Room) s m #[(.long q1), (.long q2)] below meth c s₁ [] 0 0 := Stand.of_body Bd
  have e0 : s₁.heap = h0 := by rw [← hh, Bd.state]; rfl
  have N0 := Fr.nil n0
  show Goes p e below s 0 0 (Q5 Z q1 q2 h0 n0) s₁ (entryFrame m #[(.long q1), (.long q2)] 4)
  refine goEq (ef_5 m q1 q2) ?_
  refine go (T' := s₁) (g' := (mkF m 1 #[.val (.long q1), .second, .val (.long q2), .second] [(.long q1)])) (fun t kt => XS.lloadN X0.here hx rfl (hb hby d5_0) rfl kt) ?_
  refine go (T' := s₁) (g' := (mkF m 2 #[.val (.long q1), .second, .val (.long q2), .second] [(.long q2), (.long q1)])) (fun t kt => XS.lloadN X0.here hx rfl (hb hby d5_1) rfl kt) ?_
  refine go (T' := s₁) (g' := (mkF m 3 #[.val (.long q1), .second, .val (.long q2), .second] [(.int (lcmpW q1 q2))])) (fun t kt => XS.lcmp X0.here hx rfl (hb hby d5_2) rfl kt) ?_
  by_cases hc : q1 < q2
  · refine go (T' := s₁) (g' := (mkF m 10 #[.val (.long q1), .second, .val (.long q2), .second] [])) (fun t kt => XS.ifYes X0.here hx rfl (pc0 := 3) (pc' := 10) rfl (hb hby d5_3) rfl (own_l2 hc).1 (by decide) (by decide) kt) ?_
    refine go (T' := s₁) (g' := (mkF m 11 #[.val (.long q1), .second, .val (.long q2), .second] [(.long q2)])) (fun t kt => XS.lloadN X0.here hx rfl (hb hby d5_10) rfl kt) ?_
    refine goRetJ X0 hx hlk Bd.returns (hb hby d5_11) ?_ (by decide) (by decide)
    rw [e0]
    exact ⟨by rw [own_max, if_pos hc], N0, rfl⟩
  · refine go (T' := s₁) (g' := (mkF m 6 #[.val (.long q1), .second, .val (.long q2), .second] [])) (fun t kt => XS.ifNo X0.here hx rfl (hb hby d5_3) rfl (own_l3 hc).1 kt) ?_
    refine go (T' := s₁) (g' := (mkF m 7 #[.val (.long q1), .second, .val (.long q2), .second] [(.long q1)])) (fun t kt => XS.lloadN X0.here hx rfl (hb hby d5_6) rfl kt) ?_
    refine go (T' := s₁) (g' := (mkF m 11 #[.val (.long q1), .second, .val (.long q2), .second] [(.long q1)])) (fun t kt => XS.goto X0.here hx rfl (pc0 := 7) (pc' := 11) rfl (hb hby d5_7) (by decide) (by decide) kt) ?_
    refine goRetJ X0 hx hlk Bd.returns (hb hby d5_11) ?_ (by decide) (by decide)
    rw [e0]
    exact ⟨by rw [own_max, if_neg hc], N0, rfl⟩
theorem d6_0 : decode jdk_29_method_43_code 0 = .ok (.lload_n 0, 1) := by decide +kernel
theorem d6_1 : decode jdk_29_method_43_code 1 = .ok (.l2i, 1) := by decide +kernel
theorem d6_2 : decode jdk_29_method_43_code 2 = .ok (.i2l, 1) := by decide +kernel
theorem d6_3 : decode jdk_29_method_43_code 3 = .ok (.lload_n 0, 1) := by decide +kernel
theorem d6_4 : decode jdk_29_method_43_code 4 = .ok (.lcmp, 1) := by decide +kernel
theorem d6_5 : decode jdk_29_method_43_code 5 = .ok (.ifCond .eq 13, 3) := by decide +kernel
theorem d6_8 : decode jdk_29_method_43_code 8 = .ok (.new 109, 3) := by decide +kernel
theorem d6_11 : decode jdk_29_method_43_code 11 = .ok (.dup, 1) := by decide +kernel
theorem d6_12 : decode jdk_29_method_43_code 12 = .ok (.ldc 111, 2) := by decide +kernel
theorem d6_14 : decode jdk_29_method_43_code 14 = .ok (.invokespecial 113, 3) := by decide +kernel
theorem d6_17 : decode jdk_29_method_43_code 17 = .ok (.athrow, 1) := by decide +kernel
theorem d6_18 : decode jdk_29_method_43_code 18 = .ok (.lload_n 0, 1) := by decide +kernel
theorem d6_19 : decode jdk_29_method_43_code 19 = .ok (.l2i, 1) := by decide +kernel
theorem d6_20 : decode jdk_29_method_43_code 20 = .ok (.ireturn, 1) := by decide +kernel
theorem ef_6 (m : MethodId) (q1 : Int64) : entryFrame m #[(.long q1)] 2 = mkF m 0 #[.val (.long q1), .second] [] := by first | (simp [entryFrame, mkF, argsToLocals, Value.category]; done) | rfl
def Q6 (Z : State) (q1 : Int64) (h0 : Heap) (n0 : Nat) (v : Option Value) (h : Heap) (L : List Loc) : Prop := v = some (.int q1.toInt32) ∧ Fr n0 L ∧ h = h0
set_option maxRecDepth 65536 in
set_option maxHeartbeats 40000000 in
theorem rm6 (l : Launch) (Z : State) (a0 : Array Value) (hw : ∀ d ∈ tables_1, d.before a0 Z = true) (ws : List Jvm.Cond) (q1 : Int64) (h0 : Heap) (n0 : Nat) (Z0 : n0 ≤ h0.size) (hx1 : q1.toInt32.toInt64 = q1) :
    MetFree l (⟨"java/lang/Math", "toIntExact", "(J)I"⟩ : MethodName) (head1 (Jvm.Cond.code (⟨"java/lang/Math", "toIntExact", "(J)I"⟩ : MethodName) jdk_29_method_43_code 2 (some .int) :: ws) ({ frames := 0, cells := 0, slots := 0, locals := 0 } : Room)) (fun a U => a = #[(.long q1)] ∧ Z.Warmed39 U.vm ∧ U.heap = h0) (fun _ _ _ _ _ => True) (fun _ U o U' => ∃ v L, o = .returned v ∧ Q6 Z q1 h0 n0 v U'.heap L ∧ FrameEnd U o U' L ({ frames := 0, cells := 0, slots := 0, locals := 0 } : Room).cells ({ frames := 0, cells := 0, slots := 0, locals := 0 } : Room).slots) := by
  refine MetFree.of_bodySF (Jvm.Free.JP.mathPlain rfl (by decide +kernel)) hisR ?_
  intro p e s m args below meth c s₁ Bd hml0 hP hK
  obtain ⟨rfl, hZ, hh⟩ := hP
  have hx := Bd.exec
  have hby := Bd.bytes
  have hlk := Bd.notSynchronized
  have hml : c.maxLocals = 2 := hml0
  have hown : s.vm.findClass "java/lang/Math" = some m.cls := findClass_of_methodNamed Bd.named
  have hnm := (name_of_methodNamed Bd.named Bd.method).1
  have X0 : Stand p l e ({ frames := 0, cells := 0, slots := 0, locals := 0 } : Room) s m #[(.long q1)] below meth c s₁ [] 0 0 := Stand.of_body Bd
  have e0 : s₁.heap = h0 := by rw [← hh, Bd.state]; rfl
  have N0 := Fr.nil n0
  show Goes p e below s 0 0 (Q6 Z q1 h0 n0) s₁ (entryFrame m #[(.long q1)] 2)
  refine goEq (ef_6 m q1) ?_
  refine go (T' := s₁) (g' := (mkF m 1 #[.val (.long q1), .second] [(.long q1)])) (fun t kt => XS.lloadN X0.here hx rfl (hb hby d6_0) rfl kt) ?_
  refine go (T' := s₁) (g' := (mkF m 2 #[.val (.long q1), .second] [(.int (q1.toInt32))])) (fun t kt => XS.l2i X0.here hx rfl (hb hby d6_1) rfl kt) ?_
  refine go (T' := s₁) (g' := (mkF m 3 #[.val (.long q1), .second] [(.long ((q1.toInt32).toInt64))])) (fun t kt => XS.i2l X0.here hx rfl (hb hby d6_2) rfl kt) ?_
  refine go (T' := s₁) (g' := (mkF m 4 #[.val (.long q1), .second] [(.long q1), (.long ((q1.toInt32).toInt64))])) (fun t kt => XS.lloadN X0.here hx rfl (hb hby d6_3) rfl kt) ?_
  refine go (T' := s₁) (g' := (mkF m 5 #[.val (.long q1), .second] [(.int (lcmpW ((q1.toInt32).toInt64) q1))])) (fun t kt => XS.lcmp X0.here hx rfl (hb hby d6_4) rfl kt) ?_
  refine go (T' := s₁) (g' := (mkF m 18 #[.val (.long q1), .second] [])) (fun t kt => XS.ifYes X0.here hx rfl (pc0 := 5) (pc' := 18) rfl (hb hby d6_5) rfl (own_l0 hx1).1 (by decide) (by decide) kt) ?_
  refine go (T' := s₁) (g' := (mkF m 19 #[.val (.long q1), .second] [(.long q1)])) (fun t kt => XS.lloadN X0.here hx rfl (hb hby d6_18) rfl kt) ?_
  refine go (T' := s₁) (g' := (mkF m 20 #[.val (.long q1), .second] [(.int (q1.toInt32))])) (fun t kt => XS.l2i X0.here hx rfl (hb hby d6_19) rfl kt) ?_
  refine goRetI X0 hx hlk Bd.returns (hb hby d6_20) ?_ (by decide) (by decide)
  rw [e0]
  exact ⟨rfl, N0, rfl⟩
theorem d7_0 : decode jdk_29_method_28_code 0 = .ok (.iload_n 0, 1) := by decide +kernel
theorem d7_1 : decode jdk_29_method_28_code 1 = .ok (.i2l, 1) := by decide +kernel
theorem d7_2 : decode jdk_29_method_28_code 2 = .ok (.iload_n 1, 1) := by decide +kernel
theorem d7_3 : decode jdk_29_method_28_code 3 = .ok (.i2l, 1) := by decide +kernel
theorem d7_4 : decode jdk_29_method_28_code 4 = .ok (.lmul, 1) := by decide +kernel
theorem d7_5 : decode jdk_29_method_28_code 5 = .ok (.lstore_n 2, 1) := by decide +kernel
theorem d7_6 : decode jdk_29_method_28_code 6 = .ok (.lload_n 2, 1) := by decide +kernel
theorem d7_7 : decode jdk_29_method_28_code 7 = .ok (.l2i, 1) := by decide +kernel
theorem d7_8 : decode jdk_29_method_28_code 8 = .ok (.i2l, 1) := by decide +kernel
theorem d7_9 : decode jdk_29_method_28_code 9 = .ok (.lload_n 2, 1) := by decide +kernel
theorem d7_10 : decode jdk_29_method_28_code 10 = .ok (.lcmp, 1) := by decide +kernel
theorem d7_11 : decode jdk_29_method_28_code 11 = .ok (.ifCond .eq 13, 3) := by decide +kernel
theorem d7_14 : decode jdk_29_method_28_code 14 = .ok (.new 109, 3) := by decide +kernel
theorem d7_17 : decode jdk_29_method_28_code 17 = .ok (.dup, 1) := by decide +kernel
theorem d7_18 : decode jdk_29_method_28_code 18 = .ok (.ldc 111, 2) := by decide +kernel
theorem d7_20 : decode jdk_29_method_28_code 20 = .ok (.invokespecial 113, 3) := by decide +kernel
theorem d7_23 : decode jdk_29_method_28_code 23 = .ok (.athrow, 1) := by decide +kernel
theorem d7_24 : decode jdk_29_method_28_code 24 = .ok (.lload_n 2, 1) := by decide +kernel
theorem d7_25 : decode jdk_29_method_28_code 25 = .ok (.l2i, 1) := by decide +kernel
theorem d7_26 : decode jdk_29_method_28_code 26 = .ok (.ireturn, 1) := by decide +kernel
theorem ef_7 (m : MethodId) (p1 : Int32) (p2 : Int32) : entryFrame m #[(.int p1), (.int p2)] 4 = mkF m 0 #[.val (.int p1), .val (.int p2), .unset, .unset] [] := by first | (simp [entryFrame, mkF, argsToLocals, Value.category]; done) | rfl
def Q7 (Z : State) (p1 : Int32) (p2 : Int32) (h0 : Heap) (n0 : Nat) (v : Option Value) (h : Heap) (L : List Loc) : Prop := v = some (.int (p1.toInt64 * p2.toInt64).toInt32) ∧ Fr n0 L ∧ h = h0
set_option maxRecDepth 65536 in
set_option maxHeartbeats 40000000 in
theorem rm7 (l : Launch) (Z : State) (a0 : Array Value) (hw : ∀ d ∈ tables_1, d.before a0 Z = true) (ws : List Jvm.Cond) (p1 : Int32) (p2 : Int32) (h0 : Heap) (n0 : Nat) (Z0 : n0 ≤ h0.size) (hx1 : (p1.toInt64 * p2.toInt64).toInt32.toInt64 = p1.toInt64 * p2.toInt64) :
    MetFree l (⟨"java/lang/Math", "multiplyExact", "(II)I"⟩ : MethodName) (head1 (Jvm.Cond.code (⟨"java/lang/Math", "multiplyExact", "(II)I"⟩ : MethodName) jdk_29_method_28_code 4 (some .int) :: ws) ({ frames := 0, cells := 0, slots := 0, locals := 0 } : Room)) (fun a U => a = #[(.int p1), (.int p2)] ∧ Z.Warmed39 U.vm ∧ U.heap = h0) (fun _ _ _ _ _ => True) (fun _ U o U' => ∃ v L, o = .returned v ∧ Q7 Z p1 p2 h0 n0 v U'.heap L ∧ FrameEnd U o U' L ({ frames := 0, cells := 0, slots := 0, locals := 0 } : Room).cells ({ frames := 0, cells := 0, slots := 0, locals := 0 } : Room).slots) := by
  refine MetFree.of_bodySF (Jvm.Free.JP.mathPlain rfl (by decide +kernel)) hisR ?_
  intro p e s m args below meth c s₁ Bd hml0 hP hK
  obtain ⟨rfl, hZ, hh⟩ := hP
  have hx := Bd.exec
  have hby := Bd.bytes
  have hlk := Bd.notSynchronized
  have hml : c.maxLocals = 4 := hml0
  have hown : s.vm.findClass "java/lang/Math" = some m.cls := findClass_of_methodNamed Bd.named
  have hnm := (name_of_methodNamed Bd.named Bd.method).1
  have X0 : Stand p l e ({ frames := 0, cells := 0, slots := 0, locals := 0 } : Room) s m #[(.int p1), (.int p2)] below meth c s₁ [] 0 0 := Stand.of_body Bd
  have e0 : s₁.heap = h0 := by rw [← hh, Bd.state]; rfl
  have N0 := Fr.nil n0
  show Goes p e below s 0 0 (Q7 Z p1 p2 h0 n0) s₁ (entryFrame m #[(.int p1), (.int p2)] 4)
  refine goEq (ef_7 m p1 p2) ?_
  refine go (T' := s₁) (g' := (mkF m 1 #[.val (.int p1), .val (.int p2), .unset, .unset] [(.int p1)])) (fun t kt => XS.iloadN X0.here hx rfl (hb hby d7_0) rfl kt) ?_
  refine go (T' := s₁) (g' := (mkF m 2 #[.val (.int p1), .val (.int p2), .unset, .unset] [(.long (p1.toInt64))])) (fun t kt => XS.i2l X0.here hx rfl (hb hby d7_1) rfl kt) ?_
  refine go (T' := s₁) (g' := (mkF m 3 #[.val (.int p1), .val (.int p2), .unset, .unset] [(.int p2), (.long (p1.toInt64))])) (fun t kt => XS.iloadN X0.here hx rfl (hb hby d7_2) rfl kt) ?_
  refine go (T' := s₁) (g' := (mkF m 4 #[.val (.int p1), .val (.int p2), .unset, .unset] [(.long (p2.toInt64)), (.long (p1.toInt64))])) (fun t kt => XS.i2l X0.here hx rfl (hb hby d7_3) rfl kt) ?_
  refine go (T' := s₁) (g' := (mkF m 5 #[.val (.int p1), .val (.int p2), .unset, .unset] [(.long ((p1.toInt64) * (p2.toInt64)))])) (fun t kt => XS.lmul X0.here hx rfl (hb hby d7_4) rfl kt) ?_
  refine go (T' := s₁) (g' := (mkF m 6 #[.val (.int p1), .val (.int p2), .val (.long ((p1.toInt64) * (p2.toInt64))), .second] [])) (fun t kt => XS.lstoreN X0.here hx rfl (hb hby d7_5) rfl (l' := #[.val (.int p1), .val (.int p2), .val (.long ((p1.toInt64) * (p2.toInt64))), .second]) rfl kt) ?_
  refine go (T' := s₁) (g' := (mkF m 7 #[.val (.int p1), .val (.int p2), .val (.long ((p1.toInt64) * (p2.toInt64))), .second] [(.long ((p1.toInt64) * (p2.toInt64)))])) (fun t kt => XS.lloadN X0.here hx rfl (hb hby d7_6) rfl kt) ?_
  refine go (T' := s₁) (g' := (mkF m 8 #[.val (.int p1), .val (.int p2), .val (.long ((p1.toInt64) * (p2.toInt64))), .second] [(.int (((p1.toInt64) * (p2.toInt64)).toInt32))])) (fun t kt => XS.l2i X0.here hx rfl (hb hby d7_7) rfl kt) ?_
  refine go (T' := s₁) (g' := (mkF m 9 #[.val (.int p1), .val (.int p2), .val (.long ((p1.toInt64) * (p2.toInt64))), .second] [(.long ((((p1.toInt64) * (p2.toInt64)).toInt32).toInt64))])) (fun t kt => XS.i2l X0.here hx rfl (hb hby d7_8) rfl kt) ?_
  refine go (T' := s₁) (g' := (mkF m 10 #[.val (.int p1), .val (.int p2), .val (.long ((p1.toInt64) * (p2.toInt64))), .second] [(.long ((p1.toInt64) * (p2.toInt64))), (.long ((((p1.toInt64) * (p2.toInt64)).toInt32).toInt64))])) (fun t kt => XS.lloadN X0.here hx rfl (hb hby d7_9) rfl kt) ?_
  refine go (T' := s₁) (g' := (mkF m 11 #[.val (.int p1), .val (.int p2), .val (.long ((p1.toInt64) * (p2.toInt64))), .second] [(.int (lcmpW ((((p1.toInt64) * (p2.toInt64)).toInt32).toInt64) ((p1.toInt64) * (p2.toInt64))))])) (fun t kt => XS.lcmp X0.here hx rfl (hb hby d7_10) rfl kt) ?_
  refine go (T' := s₁) (g' := (mkF m 24 #[.val (.int p1), .val (.int p2), .val (.long ((p1.toInt64) * (p2.toInt64))), .second] [])) (fun t kt => XS.ifYes X0.here hx rfl (pc0 := 11) (pc' := 24) rfl (hb hby d7_11) rfl (own_l0 hx1).1 (by decide) (by decide) kt) ?_
  refine go (T' := s₁) (g' := (mkF m 25 #[.val (.int p1), .val (.int p2), .val (.long ((p1.toInt64) * (p2.toInt64))), .second] [(.long ((p1.toInt64) * (p2.toInt64)))])) (fun t kt => XS.lloadN X0.here hx rfl (hb hby d7_24) rfl kt) ?_
  refine go (T' := s₁) (g' := (mkF m 26 #[.val (.int p1), .val (.int p2), .val (.long ((p1.toInt64) * (p2.toInt64))), .second] [(.int (((p1.toInt64) * (p2.toInt64)).toInt32))])) (fun t kt => XS.l2i X0.here hx rfl (hb hby d7_25) rfl kt) ?_
  refine goRetI X0 hx hlk Bd.returns (hb hby d7_26) ?_ (by decide) (by decide)
  rw [e0]
  exact ⟨rfl, N0, rfl⟩
theorem d4_0 : decode prog_55_method_2_code 0 = .ok (.lconst 1, 1) := by decide +kernel
theorem d4_1 : decode prog_55_method_2_code 1 = .ok (.lload_n 0, 1) := by decide +kernel
theorem d4_2 : decode prog_55_method_2_code 2 = .ok (.ldc2_w 49, 3) := by decide +kernel
theorem d4_5 : decode prog_55_method_2_code 5 = .ok (.lmul, 1) := by decide +kernel
theorem d4_6 : decode prog_55_method_2_code 6 = .ok (.ldc2_w 53, 3) := by decide +kernel
theorem d4_9 : decode prog_55_method_2_code 9 = .ok (.ladd, 1) := by decide +kernel
theorem d4_10 : decode prog_55_method_2_code 10 = .ok (.lconst 1, 1) := by decide +kernel
theorem d4_11 : decode prog_55_method_2_code 11 = .ok (.lsub, 1) := by decide +kernel
theorem d4_12 : decode prog_55_method_2_code 12 = .ok (.ldc2_w 53, 3) := by decide +kernel
theorem d4_15 : decode prog_55_method_2_code 15 = .ok (.ldiv, 1) := by decide +kernel
theorem d4_16 : decode prog_55_method_2_code 16 = .ok (.invokestatic 55, 3) := by decide +kernel
theorem d4_19 : decode prog_55_method_2_code 19 = .ok (.invokestatic 61, 3) := by decide +kernel
theorem d4_22 : decode prog_55_method_2_code 22 = .ok (.ireturn, 1) := by decide +kernel
theorem pd_0 : parseMethodDescriptor "(JJ)J" = some ⟨[.long, .long], some .long⟩ := by decide +kernel
theorem pd_1 : parseMethodDescriptor "(J)I" = some ⟨[.long], some .int⟩ := by decide +kernel
theorem ef_4 (m : MethodId) (q1 : Int64) : entryFrame m #[(.long q1)] 2 = mkF m 0 #[.val (.long q1), .second] [] := by first | (simp [entryFrame, mkF, argsToLocals, Value.category]; done) | rfl
def Q4 (Z : State) (q1 : Int64) (h0 : Heap) (n0 : Nat) (v : Option Value) (h : Heap) (L : List Loc) : Prop := v = some (.int (own_raw q1).toInt32) ∧ Fr n0 L ∧ h = h0
set_option maxRecDepth 65536 in
set_option maxHeartbeats 40000000 in
theorem rm4 (l : Launch) (Z : State) (a0 : Array Value) (hw : ∀ d ∈ tables_1, d.before a0 Z = true) (ws : List Jvm.Cond) (q1 : Int64) (h0 : Heap) (n0 : Nat) (Z0 : n0 ≤ h0.size) (hx1 : (own_raw q1).toInt32.toInt64 = own_raw q1) :
    MetFree l (⟨"com/example/tallyward/tallyward/io/KeyFilter", "blocks", "(J)I"⟩ : MethodName) (head1 (Jvm.Cond.code (⟨"com/example/tallyward/tallyward/io/KeyFilter", "blocks", "(J)I"⟩ : MethodName) prog_55_method_2_code 2 (some .int) :: ws) ({ frames := 1, cells := 0, slots := 0, locals := 15 } : Room)) (fun a U => a = #[(.long q1)] ∧ Z.Warmed39 U.vm ∧ U.heap = h0) (fun _ _ _ _ _ => True) (fun _ U o U' => ∃ v L, o = .returned v ∧ Q4 Z q1 h0 n0 v U'.heap L ∧ FrameEnd U o U' L ({ frames := 1, cells := 0, slots := 0, locals := 15 } : Room).cells ({ frames := 1, cells := 0, slots := 0, locals := 15 } : Room).slots) := by
  refine MetFree.of_bodySF (plainFor_of_name pn_1) hisR ?_
  intro p e s m args below meth c s₁ Bd hml0 hP hK
  obtain ⟨rfl, hZ, hh⟩ := hP
  have hx := Bd.exec
  have hby := Bd.bytes
  have hlk := Bd.notSynchronized
  have hml : c.maxLocals = 2 := hml0
  have hown : s.vm.findClass "com/example/tallyward/tallyward/io/KeyFilter" = some m.cls := findClass_of_methodNamed Bd.named
  have hnm := (name_of_methodNamed Bd.named Bd.method).1
  have X0 : Stand p l e ({ frames := 1, cells := 0, slots := 0, locals := 15 } : Room) s m #[(.long q1)] below meth c s₁ [] 0 0 := Stand.of_body Bd
  have e0 : s₁.heap = h0 := by rw [← hh, Bd.state]; rfl
  have N0 := Fr.nil n0
  show Goes p e below s 0 0 (Q4 Z q1 h0 n0) s₁ (entryFrame m #[(.long q1)] 2)
  refine goEq (ef_4 m q1) ?_
  refine go (T' := s₁) (g' := (mkF m 1 #[.val (.long q1), .second] [(.long (1 : Int64))])) (fun t kt => XS.lconst X0.here hx rfl (hb hby d4_0) kt) ?_
  refine go (T' := s₁) (g' := (mkF m 2 #[.val (.long q1), .second] [(.long q1), (.long (1 : Int64))])) (fun t kt => XS.lloadN X0.here hx rfl (hb hby d4_1) rfl kt) ?_
  refine go (T' := s₁) (g' := (mkF m 5 #[.val (.long q1), .second] [(.long (24 : Int64)), (.long q1), (.long (1 : Int64))])) (fun t kt => X0.ldc2Long hx hown (mvT hZ (hw _ (List.mem_of_getElem? (i := 19) rfl))) (g := (mkF m 2 #[.val (.long q1), .second] [(.long q1), (.long (1 : Int64))])) rfl (hb hby d4_2) _ kt) ?_
  refine go (T' := s₁) (g' := (mkF m 6 #[.val (.long q1), .second] [(.long (q1 * (24 : Int64))), (.long (1 : Int64))])) (fun t kt => XS.lmul X0.here hx rfl (hb hby d4_5) rfl kt) ?_
  refine go (T' := s₁) (g' := (mkF m 9 #[.val (.long q1), .second] [(.long (512 : Int64)), (.long (q1 * (24 : Int64))), (.long (1 : Int64))])) (fun t kt => X0.ldc2Long hx hown (mvT hZ (hw _ (List.mem_of_getElem? (i := 20) rfl))) (g := (mkF m 6 #[.val (.long q1), .second] [(.long (q1 * (24 : Int64))), (.long (1 : Int64))])) rfl (hb hby d4_6) _ kt) ?_
  refine go (T' := s₁) (g' := (mkF m 10 #[.val (.long q1), .second] [(.long ((q1 * (24 : Int64)) + (512 : Int64))), (.long (1 : Int64))])) (fun t kt => XS.ladd X0.here hx rfl (hb hby d4_9) rfl kt) ?_
  refine go (T' := s₁) (g' := (mkF m 11 #[.val (.long q1), .second] [(.long (1 : Int64)), (.long ((q1 * (24 : Int64)) + (512 : Int64))), (.long (1 : Int64))])) (fun t kt => XS.lconst X0.here hx rfl (hb hby d4_10) kt) ?_
  refine go (T' := s₁) (g' := (mkF m 12 #[.val (.long q1), .second] [(.long (((q1 * (24 : Int64)) + (512 : Int64)) - (1 : Int64))), (.long (1 : Int64))])) (fun t kt => XS.lsub X0.here hx rfl (hb hby d4_11) rfl kt) ?_
  refine go (T' := s₁) (g' := (mkF m 15 #[.val (.long q1), .second] [(.long (512 : Int64)), (.long (((q1 * (24 : Int64)) + (512 : Int64)) - (1 : Int64))), (.long (1 : Int64))])) (fun t kt => X0.ldc2Long hx hown (mvT hZ (hw _ (List.mem_of_getElem? (i := 20) rfl))) (g := (mkF m 12 #[.val (.long q1), .second] [(.long (((q1 * (24 : Int64)) + (512 : Int64)) - (1 : Int64))), (.long (1 : Int64))])) rfl (hb hby d4_12) _ kt) ?_
  refine go (T' := s₁) (g' := (mkF m 16 #[.val (.long q1), .second] [(.long ((((q1 * (24 : Int64)) + (512 : Int64)) - (1 : Int64)) / (512 : Int64))), (.long (1 : Int64))])) (fun t kt => XS.ldiv X0.here hx rfl (hb hby d4_15) rfl (by decide) kt) ?_
  obtain ⟨_, _, ⟨T1001, L1001, k1001, n1001⟩, -, X1001, ⟨Lc1001, hQ1001, l1001, y1001, z1001⟩, st1001⟩ := Jvm.LawKit.callS X0 hx (y := (⟨"java/lang/Math", "max", "(JJ)J"⟩ : MethodName)) hown (mvT hZ (hw _ (List.mem_of_getElem? (i := 21) rfl))) (mvT hZ (hw _ (List.mem_of_getElem? (i := 22) rfl))) (mvT hZ (hw _ (List.mem_of_getElem? (i := 23) rfl))) (mvT hZ (hw _ (List.mem_of_getElem? (i := 24) rfl))) (by decide) (backOf (W := 0) (rm5 l Z a0 hw [] 1 ((q1 * 24 + 512 - 1) / 512) h0 n0 Z0) hZ (hw _ (List.mem_of_getElem? (i := 24) rfl)) (hw _ (List.mem_of_getElem? (i := 23) rfl)) (by decide) (by decide)) (g := (mkF m 16 #[.val (.long q1), .second] [(.long ((((q1 * (24 : Int64)) + (512 : Int64)) - (1 : Int64)) / (512 : Int64))), (.long (1 : Int64))])) rfl (by rw [hml]; rfl) (argsL := [(.long (1 : Int64)), (.long ((((q1 * (24 : Int64)) + (512 : Int64)) - (1 : Int64)) / (512 : Int64)))]) (rest := []) (lenOf pd_0 rfl) rfl (by show 2 * 0 + _ ≤ _; exact Nat.le_of_eq rfl) (hb hby d4_16) (fun _ _ => ⟨rfl, e0, (by decide : 0 + 0 ≤ _), (by decide : 0 + 0 ≤ _)⟩)
  dsimp only [Pt.U, Pt.locs, Pt.cells, Pt.slots] at X1001 l1001 y1001 z1001 st1001 hQ1001
  subst l1001 y1001 z1001
  obtain ⟨rfl, N1001q, e1001⟩ := hQ1001
  have N1001 := Fr.app N0 N1001q
  refine go (T' := T1001) (g' := (mkF m 19 #[.val (.long q1), .second] [(.long (own_raw q1))])) st1001 ?_
  obtain ⟨_, _, ⟨T1002, L1002, k1002, n1002⟩, -, X1002, ⟨Lc1002, hQ1002, l1002, y1002, z1002⟩, st1002⟩ := Jvm.LawKit.callS X1001 hx (y := (⟨"java/lang/Math", "toIntExact", "(J)I"⟩ : MethodName)) hown (mvT hZ (hw _ (List.mem_of_getElem? (i := 25) rfl))) (mvT hZ (hw _ (List.mem_of_getElem? (i := 26) rfl))) (mvT hZ (hw _ (List.mem_of_getElem? (i := 23) rfl))) (mvT hZ (hw _ (List.mem_of_getElem? (i := 27) rfl))) (by decide) (backOf (W := 0) (rm6 l Z a0 hw [] (own_raw q1) h0 n0 Z0 hx1) hZ (hw _ (List.mem_of_getElem? (i := 27) rfl)) (hw _ (List.mem_of_getElem? (i := 23) rfl)) (by decide) (by decide)) (g := (mkF m 19 #[.val (.long q1), .second] [(.long (own_raw q1))])) rfl (by rw [hml]; rfl) (argsL := [(.long (own_raw q1))]) (rest := []) (lenOf pd_1 rfl) rfl (by show 2 * 0 + _ ≤ _; exact Nat.le_of_eq rfl) (hb hby d4_19) (fun _ _ => ⟨rfl, e1001, (by decide : 0 + 0 ≤ _), (by decide : 0 + 0 ≤ _)⟩)
  dsimp only [Pt.U, Pt.locs, Pt.cells, Pt.slots] at X1002 l1002 y1002 z1002 st1002 hQ1002
  subst l1002 y1002 z1002
  obtain ⟨rfl, N1002q, e1002⟩ := hQ1002
  have N1002 := Fr.app N1001 N1002q
  refine go (T' := T1002) (g' := (mkF m 22 #[.val (.long q1), .second] [(.int (own_raw q1).toInt32)])) st1002 ?_
  refine goRetI X1002 hx hlk Bd.returns (hb hby d4_22) ?_ (by decide) (by decide)
  rw [e1002]
  exact ⟨rfl, N1002, rfl⟩
theorem d11_0 : decode prog_55_method_6_code 0 = .ok (.ldc2_w 118, 3) := by decide +kernel
theorem d11_3 : decode prog_55_method_6_code 3 = .ok (.iload_n 0, 1) := by decide +kernel
theorem d11_4 : decode prog_55_method_6_code 4 = .ok (.i2l, 1) := by decide +kernel
theorem d11_5 : decode prog_55_method_6_code 5 = .ok (.lmul, 1) := by decide +kernel
theorem d11_6 : decode prog_55_method_6_code 6 = .ok (.lconst 1, 1) := by decide +kernel
theorem d11_7 : decode prog_55_method_6_code 7 = .ok (.ladd, 1) := by decide +kernel
theorem d11_8 : decode prog_55_method_6_code 8 = .ok (.ldc2_w 120, 3) := by decide +kernel
theorem d11_11 : decode prog_55_method_6_code 11 = .ok (.lmul, 1) := by decide +kernel
theorem d11_12 : decode prog_55_method_6_code 12 = .ok (.lreturn, 1) := by decide +kernel
theorem ef_11 (m : MethodId) (p1 : Int32) : entryFrame m #[(.int p1)] 1 = mkF m 0 #[.val (.int p1)] [] := by first | (simp [entryFrame, mkF, argsToLocals, Value.category]; done) | rfl
def Q11 (Z : State) (p1 : Int32) (h0 : Heap) (n0 : Nat) (v : Option Value) (h : Heap) (L : List Loc) : Prop := ∃ x, v = some (.long x) ∧ Fr n0 L ∧ h = h0
set_option maxRecDepth 65536 in
set_option maxHeartbeats 40000000 in
theorem rm11 (l : Launch) (Z : State) (a0 : Array Value) (hw : ∀ d ∈ tables_1, d.before a0 Z = true) (ws : List Jvm.Cond) (p1 : Int32) (h0 : Heap) (n0 : Nat) (Z0 : n0 ≤ h0.size)  :
    MetFree l (⟨"com/example/tallyward/tallyward/io/KeyFilter", "emptyCheck", "(I)J"⟩ : MethodName) (head1 (Jvm.Cond.code (⟨"com/example/tallyward/tallyward/io/KeyFilter", "emptyCheck", "(I)J"⟩ : MethodName) prog_55_method_6_code 1 (some .long) :: ws) ({ frames := 0, cells := 0, slots := 0, locals := 0 } : Room)) (fun a U => a = #[(.int p1)] ∧ Z.Warmed39 U.vm ∧ U.heap = h0) (fun _ _ _ _ _ => True) (fun _ U o U' => ∃ v L, o = .returned v ∧ Q11 Z p1 h0 n0 v U'.heap L ∧ FrameEnd U o U' L ({ frames := 0, cells := 0, slots := 0, locals := 0 } : Room).cells ({ frames := 0, cells := 0, slots := 0, locals := 0 } : Room).slots) := by
  refine MetFree.of_bodySF (plainFor_of_name pn_1) hisR ?_
  intro p e s m args below meth c s₁ Bd hml0 hP hK
  obtain ⟨rfl, hZ, hh⟩ := hP
  have hx := Bd.exec
  have hby := Bd.bytes
  have hlk := Bd.notSynchronized
  have hml : c.maxLocals = 1 := hml0
  have hown : s.vm.findClass "com/example/tallyward/tallyward/io/KeyFilter" = some m.cls := findClass_of_methodNamed Bd.named
  have hnm := (name_of_methodNamed Bd.named Bd.method).1
  have X0 : Stand p l e ({ frames := 0, cells := 0, slots := 0, locals := 0 } : Room) s m #[(.int p1)] below meth c s₁ [] 0 0 := Stand.of_body Bd
  have e0 : s₁.heap = h0 := by rw [← hh, Bd.state]; rfl
  have N0 := Fr.nil n0
  show Goes p e below s 0 0 (Q11 Z p1 h0 n0) s₁ (entryFrame m #[(.int p1)] 1)
  refine goEq (ef_11 m p1) ?_
  refine go (T' := s₁) (g' := (mkF m 3 #[.val (.int p1)] [(.long (2 : Int64))])) (fun t kt => X0.ldc2Long hx hown (mvT hZ (hw _ (List.mem_of_getElem? (i := 63) rfl))) (g := (mkF m 0 #[.val (.int p1)] [])) rfl (hb hby d11_0) _ kt) ?_
  refine go (T' := s₁) (g' := (mkF m 4 #[.val (.int p1)] [(.int p1), (.long (2 : Int64))])) (fun t kt => XS.iloadN X0.here hx rfl (hb hby d11_3) rfl kt) ?_
  refine go (T' := s₁) (g' := (mkF m 5 #[.val (.int p1)] [(.long (p1.toInt64)), (.long (2 : Int64))])) (fun t kt => XS.i2l X0.here hx rfl (hb hby d11_4) rfl kt) ?_
  refine go (T' := s₁) (g' := (mkF m 6 #[.val (.int p1)] [(.long ((2 : Int64) * (p1.toInt64)))])) (fun t kt => XS.lmul X0.here hx rfl (hb hby d11_5) rfl kt) ?_
  refine go (T' := s₁) (g' := (mkF m 7 #[.val (.int p1)] [(.long (1 : Int64)), (.long ((2 : Int64) * (p1.toInt64)))])) (fun t kt => XS.lconst X0.here hx rfl (hb hby d11_6) kt) ?_
  refine go (T' := s₁) (g' := (mkF m 8 #[.val (.int p1)] [(.long (((2 : Int64) * (p1.toInt64)) + (1 : Int64)))])) (fun t kt => XS.ladd X0.here hx rfl (hb hby d11_7) rfl kt) ?_
  refine go (T' := s₁) (g' := (mkF m 11 #[.val (.int p1)] [(.long (-7046029254386353131 : Int64)), (.long (((2 : Int64) * (p1.toInt64)) + (1 : Int64)))])) (fun t kt => X0.ldc2Long hx hown (mvT hZ (hw _ (List.mem_of_getElem? (i := 64) rfl))) (g := (mkF m 8 #[.val (.int p1)] [(.long (((2 : Int64) * (p1.toInt64)) + (1 : Int64)))])) rfl (hb hby d11_8) _ kt) ?_
  refine go (T' := s₁) (g' := (mkF m 12 #[.val (.int p1)] [(.long ((((2 : Int64) * (p1.toInt64)) + (1 : Int64)) * (-7046029254386353131 : Int64)))])) (fun t kt => XS.lmul X0.here hx rfl (hb hby d11_11) rfl kt) ?_
  refine goRetJ X0 hx hlk Bd.returns (hb hby d11_12) ?_ (by decide) (by decide)
  rw [e0]
  exact ⟨_, rfl, N0, rfl⟩
theorem d12_0 : decode prog_55_method_7_code 0 = .ok (.lload_n 0, 1) := by decide +kernel
theorem d12_1 : decode prog_55_method_7_code 1 = .ok (.lload_n 3, 1) := by decide +kernel
theorem d12_2 : decode prog_55_method_7_code 2 = .ok (.ldc2_w 118, 3) := by decide +kernel
theorem d12_5 : decode prog_55_method_7_code 5 = .ok (.iload_n 2, 1) := by decide +kernel
theorem d12_6 : decode prog_55_method_7_code 6 = .ok (.i2l, 1) := by decide +kernel
theorem d12_7 : decode prog_55_method_7_code 7 = .ok (.lmul, 1) := by decide +kernel
theorem d12_8 : decode prog_55_method_7_code 8 = .ok (.lconst 1, 1) := by decide +kernel
theorem d12_9 : decode prog_55_method_7_code 9 = .ok (.ladd, 1) := by decide +kernel
theorem d12_10 : decode prog_55_method_7_code 10 = .ok (.ldc2_w 120, 3) := by decide +kernel
theorem d12_13 : decode prog_55_method_7_code 13 = .ok (.lmul, 1) := by decide +kernel
theorem d12_14 : decode prog_55_method_7_code 14 = .ok (.lmul, 1) := by decide +kernel
theorem d12_15 : decode prog_55_method_7_code 15 = .ok (.ladd, 1) := by decide +kernel
theorem d12_16 : decode prog_55_method_7_code 16 = .ok (.lreturn, 1) := by decide +kernel
theorem ef_12 (m : MethodId) (q1 : Int64) (p1 : Int32) (q2 : Int64) : entryFrame m #[(.long q1), (.int p1), (.long q2)] 5 = mkF m 0 #[.val (.long q1), .second, .val (.int p1), .val (.long q2), .second] [] := by first | (simp [entryFrame, mkF, argsToLocals, Value.category]; done) | rfl
def Q12 (Z : State) (q1 : Int64) (p1 : Int32) (q2 : Int64) (h0 : Heap) (n0 : Nat) (v : Option Value) (h : Heap) (L : List Loc) : Prop := ∃ x, v = some (.long x) ∧ Fr n0 L ∧ h = h0
set_option maxRecDepth 65536 in
set_option maxHeartbeats 40000000 in
theorem rm12 (l : Launch) (Z : State) (a0 : Array Value) (hw : ∀ d ∈ tables_1, d.before a0 Z = true) (ws : List Jvm.Cond) (q1 : Int64) (p1 : Int32) (q2 : Int64) (h0 : Heap) (n0 : Nat) (Z0 : n0 ≤ h0.size)  :
    MetFree l (⟨"com/example/tallyward/tallyward/io/KeyFilter", "withWord", "(JIJ)J"⟩ : MethodName) (head1 (Jvm.Cond.code (⟨"com/example/tallyward/tallyward/io/KeyFilter", "withWord", "(JIJ)J"⟩ : MethodName) prog_55_method_7_code 5 (some .long) :: ws) ({ frames := 0, cells := 0, slots := 0, locals := 0 } : Room)) (fun a U => a = #[(.long q1), (.int p1), (.long q2)] ∧ Z.Warmed39 U.vm ∧ U.heap = h0) (fun _ _ _ _ _ => True) (fun _ U o U' => ∃ v L, o = .returned v ∧ Q12 Z q1 p1 q2 h0 n0 v U'.heap L ∧ FrameEnd U o U' L ({ frames := 0, cells := 0, slots := 0, locals := 0 } : Room).cells ({ frames := 0, cells := 0, slots := 0, locals := 0 } : Room).slots) := by
  refine MetFree.of_bodySF (plainFor_of_name pn_1) hisR ?_
  intro p e s m args below meth c s₁ Bd hml0 hP hK
  obtain ⟨rfl, hZ, hh⟩ := hP
  have hx := Bd.exec
  have hby := Bd.bytes
  have hlk := Bd.notSynchronized
  have hml : c.maxLocals = 5 := hml0
  have hown : s.vm.findClass "com/example/tallyward/tallyward/io/KeyFilter" = some m.cls := findClass_of_methodNamed Bd.named
  have hnm := (name_of_methodNamed Bd.named Bd.method).1
  have X0 : Stand p l e ({ frames := 0, cells := 0, slots := 0, locals := 0 } : Room) s m #[(.long q1), (.int p1), (.long q2)] below meth c s₁ [] 0 0 := Stand.of_body Bd
  have e0 : s₁.heap = h0 := by rw [← hh, Bd.state]; rfl
  have N0 := Fr.nil n0
  show Goes p e below s 0 0 (Q12 Z q1 p1 q2 h0 n0) s₁ (entryFrame m #[(.long q1), (.int p1), (.long q2)] 5)
  refine goEq (ef_12 m q1 p1 q2) ?_
  refine go (T' := s₁) (g' := (mkF m 1 #[.val (.long q1), .second, .val (.int p1), .val (.long q2), .second] [(.long q1)])) (fun t kt => XS.lloadN X0.here hx rfl (hb hby d12_0) rfl kt) ?_
  refine go (T' := s₁) (g' := (mkF m 2 #[.val (.long q1), .second, .val (.int p1), .val (.long q2), .second] [(.long q2), (.long q1)])) (fun t kt => XS.lloadN X0.here hx rfl (hb hby d12_1) rfl kt) ?_
  refine go (T' := s₁) (g' := (mkF m 5 #[.val (.long q1), .second, .val (.int p1), .val (.long q2), .second] [(.long (2 : Int64)), (.long q2), (.long q1)])) (fun t kt => X0.ldc2Long hx hown (mvT hZ (hw _ (List.mem_of_getElem? (i := 63) rfl))) (g := (mkF m 2 #[.val (.long q1), .second, .val (.int p1), .val (.long q2), .second] [(.long q2), (.long q1)])) rfl (hb hby d12_2) _ kt) ?_
  refine go (T' := s₁) (g' := (mkF m 6 #[.val (.long q1), .second, .val (.int p1), .val (.long q2), .second] [(.int p1), (.long (2 : Int64)), (.long q2), (.long q1)])) (fun t kt => XS.iloadN X0.here hx rfl (hb hby d12_5) rfl kt) ?_
  refine go (T' := s₁) (g' := (mkF m 7 #[.val (.long q1), .second, .val (.int p1), .val (.long q2), .second] [(.long (p1.toInt64)), (.long (2 : Int64)), (.long q2), (.long q1)])) (fun t kt => XS.i2l X0.here hx rfl (hb hby d12_6) rfl kt) ?_
  refine go (T' := s₁) (g' := (mkF m 8 #[.val (.long q1), .second, .val (.int p1), .val (.long q2), .second] [(.long ((2 : Int64) * (p1.toInt64))), (.long q2), (.long q1)])) (fun t kt => XS.lmul X0.here hx rfl (hb hby d12_7) rfl kt) ?_
  refine go (T' := s₁) (g' := (mkF m 9 #[.val (.long q1), .second, .val (.int p1), .val (.long q2), .second] [(.long (1 : Int64)), (.long ((2 : Int64) * (p1.toInt64))), (.long q2), (.long q1)])) (fun t kt => XS.lconst X0.here hx rfl (hb hby d12_8) kt) ?_
  refine go (T' := s₁) (g' := (mkF m 10 #[.val (.long q1), .second, .val (.int p1), .val (.long q2), .second] [(.long (((2 : Int64) * (p1.toInt64)) + (1 : Int64))), (.long q2), (.long q1)])) (fun t kt => XS.ladd X0.here hx rfl (hb hby d12_9) rfl kt) ?_
  refine go (T' := s₁) (g' := (mkF m 13 #[.val (.long q1), .second, .val (.int p1), .val (.long q2), .second] [(.long (-7046029254386353131 : Int64)), (.long (((2 : Int64) * (p1.toInt64)) + (1 : Int64))), (.long q2), (.long q1)])) (fun t kt => X0.ldc2Long hx hown (mvT hZ (hw _ (List.mem_of_getElem? (i := 64) rfl))) (g := (mkF m 10 #[.val (.long q1), .second, .val (.int p1), .val (.long q2), .second] [(.long (((2 : Int64) * (p1.toInt64)) + (1 : Int64))), (.long q2), (.long q1)])) rfl (hb hby d12_10) _ kt) ?_
  refine go (T' := s₁) (g' := (mkF m 14 #[.val (.long q1), .second, .val (.int p1), .val (.long q2), .second] [(.long ((((2 : Int64) * (p1.toInt64)) + (1 : Int64)) * (-7046029254386353131 : Int64))), (.long q2), (.long q1)])) (fun t kt => XS.lmul X0.here hx rfl (hb hby d12_13) rfl kt) ?_
  refine go (T' := s₁) (g' := (mkF m 15 #[.val (.long q1), .second, .val (.int p1), .val (.long q2), .second] [(.long (q2 * ((((2 : Int64) * (p1.toInt64)) + (1 : Int64)) * (-7046029254386353131 : Int64)))), (.long q1)])) (fun t kt => XS.lmul X0.here hx rfl (hb hby d12_14) rfl kt) ?_
  refine go (T' := s₁) (g' := (mkF m 16 #[.val (.long q1), .second, .val (.int p1), .val (.long q2), .second] [(.long (q1 + (q2 * ((((2 : Int64) * (p1.toInt64)) + (1 : Int64)) * (-7046029254386353131 : Int64)))))])) (fun t kt => XS.ladd X0.here hx rfl (hb hby d12_15) rfl kt) ?_
  refine goRetJ X0 hx hlk Bd.returns (hb hby d12_16) ?_ (by decide) (by decide)
  rw [e0]
  exact ⟨_, rfl, N0, rfl⟩
theorem d8_0 : decode prog_56_method_1_code 0 = .ok (.aload_n 0, 1) := by decide +kernel
theorem d8_1 : decode prog_56_method_1_code 1 = .ok (.invokespecial 1, 3) := by decide +kernel
theorem d8_4 : decode prog_56_method_1_code 4 = .ok (.aload_n 0, 1) := by decide +kernel
theorem d8_5 : decode prog_56_method_1_code 5 = .ok (.iload_n 1, 1) := by decide +kernel
theorem d8_6 : decode prog_56_method_1_code 6 = .ok (.putfield 7, 3) := by decide +kernel
theorem d8_9 : decode prog_56_method_1_code 9 = .ok (.aload_n 0, 1) := by decide +kernel
theorem d8_10 : decode prog_56_method_1_code 10 = .ok (.lload_n 2, 1) := by decide +kernel
theorem d8_11 : decode prog_56_method_1_code 11 = .ok (.putfield 13, 3) := by decide +kernel
theorem d8_14 : decode prog_56_method_1_code 14 = .ok (.aload_n 0, 1) := by decide +kernel
theorem d8_15 : decode prog_56_method_1_code 15 = .ok (.iload_n 1, 1) := by decide +kernel
theorem d8_16 : decode prog_56_method_1_code 16 = .ok (.i2l, 1) := by decide +kernel
theorem d8_17 : decode prog_56_method_1_code 17 = .ok (.bipush 32, 2) := by decide +kernel
theorem d8_19 : decode prog_56_method_1_code 19 = .ok (.lshl, 1) := by decide +kernel
theorem d8_20 : decode prog_56_method_1_code 20 = .ok (.lload 4, 2) := by decide +kernel
theorem d8_22 : decode prog_56_method_1_code 22 = .ok (.lload_n 2, 1) := by decide +kernel
theorem d8_23 : decode prog_56_method_1_code 23 = .ok (.lsub, 1) := by decide +kernel
theorem d8_24 : decode prog_56_method_1_code 24 = .ok (.bipush 32, 2) := by decide +kernel
theorem d8_26 : decode prog_56_method_1_code 26 = .ok (.lushr, 1) := by decide +kernel
theorem d8_27 : decode prog_56_method_1_code 27 = .ok (.lconst 1, 1) := by decide +kernel
theorem d8_28 : decode prog_56_method_1_code 28 = .ok (.ladd, 1) := by decide +kernel
theorem d8_29 : decode prog_56_method_1_code 29 = .ok (.ldiv, 1) := by decide +kernel
theorem d8_30 : decode prog_56_method_1_code 30 = .ok (.putfield 19, 3) := by decide +kernel
theorem d8_33 : decode prog_56_method_1_code 33 = .ok (.return_, 1) := by decide +kernel
theorem pn_8 : plainName "com/example/tallyward/tallyward/io/KeyFilter$Blocks" = true := by first | (simp [plainName, overriddenIn]; done) | decide +kernel
theorem ef_8 (m : MethodId) (a1 : Addr) (p1 : Int32) (q1 : Int64) (q2 : Int64) : entryFrame m #[(.ref a1), (.int p1), (.long q1), (.long q2)] 6 = mkF m 0 #[.val (.ref a1), .val (.int p1), .val (.long q1), .second, .val (.long q2), .second] [] := by first | (simp [entryFrame, mkF, argsToLocals, Value.category]; done) | rfl
def Q8 (Z : State) (a1 : Addr) (p1 : Int32) (q1 : Int64) (q2 : Int64) (h0 : Heap) (n0 : Nat) (v : Option Value) (h : Heap) (L : List Loc) : Prop := v = none ∧ Fr n0 L ∧ Keep h0 h [a1] ∧ Fld Z h a1 "com/example/tallyward/tallyward/io/KeyFilter$Blocks" "count" "I" (.int p1)
set_option maxRecDepth 65536 in
set_option maxHeartbeats 40000000 in
theorem rm8 (l : Launch) (Z : State) (a0 : Array Value) (hw : ∀ d ∈ tables_1, d.before a0 Z = true) (ws : List Jvm.Cond) (a1 : Addr) (p1 : Int32) (q1 : Int64) (q2 : Int64) (h0 : Heap) (n0 : Nat) (Z0 : n0 ≤ h0.size) (g_a1 : n0 ≤ a1) (E1 : Exa Z h0 a1 "com/example/tallyward/tallyward/io/KeyFilter$Blocks") (F0 : Fld Z h0 a1 "com/example/tallyward/tallyward/io/KeyFilter$Blocks" "count" "I" (.int (0 : Int32))) (F1 : Fld Z h0 a1 "com/example/tallyward/tallyward/io/KeyFilter$Blocks" "first" "J" (.long (0 : Int64))) (F2 : Fld Z h0 a1 "com/example/tallyward/tallyward/io/KeyFilter$Blocks" "scale" "J" (.long (0 : Int64))) (hz : ¬ (((q2 - q1).toUInt64 >>> ((32 : Int32) &&& 0x3f).toInt64.toUInt64).toInt64 + 1 = 0)) :
    MetFree l (⟨"com/example/tallyward/tallyward/io/KeyFilter$Blocks", "<init>", "(IJJ)V"⟩ : MethodName) (head1 (Jvm.Cond.code (⟨"com/example/tallyward/tallyward/io/KeyFilter$Blocks", "<init>", "(IJJ)V"⟩ : MethodName) prog_56_method_1_code 6 none :: ws) ({ frames := 1, cells := 0, slots := 0, locals := 12 } : Room)) (fun a U => a = #[(.ref a1), (.int p1), (.long q1), (.long q2)] ∧ Z.Warmed39 U.vm ∧ U.heap = h0) (fun _ _ _ _ _ => True) (fun _ U o U' => ∃ v L, o = .returned v ∧ Q8 Z a1 p1 q1 q2 h0 n0 v U'.heap L ∧ FrameEnd U o U' L ({ frames := 1, cells := 0, slots := 0, locals := 12 } : Room).cells ({ frames := 1, cells := 0, slots := 0, locals := 12 } : Room).slots) := by
  refine MetFree.of_bodySF (plainFor_of_name pn_8) hisR ?_
  intro p e s m args below meth c s₁ Bd hml0 hP hK
  obtain ⟨rfl, hZ, hh⟩ := hP
  have hx := Bd.exec
  have hby := Bd.bytes
  have hlk := Bd.notSynchronized
  have hml : c.maxLocals = 6 := hml0
  have hown : s.vm.findClass "com/example/tallyward/tallyward/io/KeyFilter$Blocks" = some m.cls := findClass_of_methodNamed Bd.named
  have hnm := (name_of_methodNamed Bd.named Bd.method).1
  have X0 : Stand p l e ({ frames := 1, cells := 0, slots := 0, locals := 12 } : Room) s m #[(.ref a1), (.int p1), (.long q1), (.long q2)] below meth c s₁ [] 0 0 := Stand.of_body Bd
  have e0 : s₁.heap = h0 := by rw [← hh, Bd.state]; rfl
  have N0 := Fr.nil n0
  show Goes p e below s 0 0 (Q8 Z a1 p1 q1 q2 h0 n0) s₁ (entryFrame m #[(.ref a1), (.int p1), (.long q1), (.long q2)] 6)
  refine goEq (ef_8 m a1 p1 q1 q2) ?_
  refine go (T' := s₁) (g' := (mkF m 1 #[.val (.ref a1), .val (.int p1), .val (.long q1), .second, .val (.long q2), .second] [(.ref a1)])) (fun t kt => XS.aloadN X0.here hx rfl (hb hby d8_0) rfl rfl kt) ?_
  obtain ⟨T1003, X1003, e1003, st1003⟩ := initO X0 hx hZ hown (hw _ (List.mem_of_getElem? (i := 40) rfl)) (hw _ (List.mem_of_getElem? (i := 14) rfl)) (hw _ (List.mem_of_getElem? (i := 15) rfl)) e0 (g := (mkF m 1 #[.val (.ref a1), .val (.int p1), .val (.long q1), .second, .val (.long q2), .second] [(.ref a1)])) rfl (by rw [hml]; rfl) rfl (hb hby d8_1) (by decide) (W := 0) (by show 2 * 0 + _ ≤ _; exact Nat.le_of_eq rfl) (by decide)
  refine go (T' := T1003) (g' := (mkF m 4 #[.val (.ref a1), .val (.int p1), .val (.long q1), .second, .val (.long q2), .second] [])) st1003 ?_
  refine go (T' := T1003) (g' := (mkF m 5 #[.val (.ref a1), .val (.int p1), .val (.long q1), .second, .val (.long q2), .second] [(.ref a1)])) (fun t kt => XS.aloadN X1003.here hx rfl (hb hby d8_4) rfl rfl kt) ?_
  refine go (T' := T1003) (g' := (mkF m 6 #[.val (.ref a1), .val (.int p1), .val (.long q1), .second, .val (.long q2), .second] [(.int p1), (.ref a1)])) (fun t kt => XS.iloadN X1003.here hx rfl (hb hby d8_5) rfl kt) ?_
  obtain ⟨T1004, h1004, X1004, e1004, W1004, st1004⟩ := putF X1003 hx hZ hown (host := "") (Or.inl (hw _ (List.mem_of_getElem? (i := 41) rfl))) Via.refl e1003 F0 E1 (Or.inr ⟨(hw _ (List.mem_of_getElem? (i := 42) rfl)), rfl, hnm⟩) (hw _ (List.mem_of_getElem? (i := 35) rfl)) (ty := .int) (by decide) rfl rfl (g := (mkF m 6 #[.val (.ref a1), .val (.int p1), .val (.long q1), .second, .val (.long q2), .second] [(.int p1), (.ref a1)])) rfl rfl (hb hby d8_6)
  have z1004 : n0 ≤ h1004.size := Nat.le_trans Z0 (Keep.of_wr W1004).1
  have fE_a1_1004 : Exa Z h1004 a1 "com/example/tallyward/tallyward/io/KeyFilter$Blocks" := E1.wr W1004
  have fF_a1_first_1004 : Fld Z h1004 a1 "com/example/tallyward/tallyward/io/KeyFilter$Blocks" "first" "J" (.long (0 : Int64)) := F1.other W1004 (Or.inr (slot_ne (Or.inr (hw _ (List.mem_of_getElem? (i := 44) rfl))) (Or.inr (hw _ (List.mem_of_getElem? (i := 42) rfl))) (by decide) (t := .long) (t' := .int) (by decide) (by decide)))
  have fF_a1_scale_1004 : Fld Z h1004 a1 "com/example/tallyward/tallyward/io/KeyFilter$Blocks" "scale" "J" (.long (0 : Int64)) := F2.other W1004 (Or.inr (slot_ne (Or.inr (hw _ (List.mem_of_getElem? (i := 46) rfl))) (Or.inr (hw _ (List.mem_of_getElem? (i := 42) rfl))) (by decide) (t := .long) (t' := .int) (by decide) (by decide)))
  have Fw1004 : Fld Z h1004 a1 "com/example/tallyward/tallyward/io/KeyFilter$Blocks" "count" "I" (.int p1) := F0.same W1004
  have K1004 : Keep h0 h1004 [a1] := (Keep.refl h0 [a1]).wr W1004 (Or.inl (List.mem_of_getElem? (i := 0) rfl))
  have N1004 := Fr.snoc X1004 N0 g_a1
  refine go (T' := T1004) (g' := (mkF m 9 #[.val (.ref a1), .val (.int p1), .val (.long q1), .second, .val (.long q2), .second] [])) st1004 ?_
  refine go (T' := T1004) (g' := (mkF m 10 #[.val (.ref a1), .val (.int p1), .val (.long q1), .second, .val (.long q2), .second] [(.ref a1)])) (fun t kt => XS.aloadN X1004.here hx rfl (hb hby d8_9) rfl rfl kt) ?_
  refine go (T' := T1004) (g' := (mkF m 11 #[.val (.ref a1), .val (.int p1), .val (.long q1), .second, .val (.long q2), .second] [(.long q1), (.ref a1)])) (fun t kt => XS.lloadN X1004.here hx rfl (hb hby d8_10) rfl kt) ?_
  obtain ⟨T1005, h1005, X1005, e1005, W1005, st1005⟩ := putF X1004 hx hZ hown (host := "") (Or.inl (hw _ (List.mem_of_getElem? (i := 43) rfl))) Via.refl e1004 fF_a1_first_1004 fE_a1_1004 (Or.inr ⟨(hw _ (List.mem_of_getElem? (i := 44) rfl)), rfl, hnm⟩) (hw _ (List.mem_of_getElem? (i := 35) rfl)) (ty := .long) (by decide) rfl rfl (g := (mkF m 11 #[.val (.ref a1), .val (.int p1), .val (.long q1), .second, .val (.long q2), .second] [(.long q1), (.ref a1)])) rfl rfl (hb hby d8_11)
  have z1005 : n0 ≤ h1005.size := Nat.le_trans z1004 (Keep.of_wr W1005).1
  have fE_a1_1005 : Exa Z h1005 a1 "com/example/tallyward/tallyward/io/KeyFilter$Blocks" := fE_a1_1004.wr W1005
  have fF_a1_count_1005 : Fld Z h1005 a1 "com/example/tallyward/tallyward/io/KeyFilter$Blocks" "count" "I" (.int p1) := Fw1004.other W1005 (Or.inr (slot_ne (Or.inr (hw _ (List.mem_of_getElem? (i := 42) rfl))) (Or.inr (hw _ (List.mem_of_getElem? (i := 44) rfl))) (by decide) (t := .int) (t' := .long) (by decide) (by decide)))
  have fF_a1_scale_1005 : Fld Z h1005 a1 "com/example/tallyward/tallyward/io/KeyFilter$Blocks" "scale" "J" (.long (0 : Int64)) := fF_a1_scale_1004.other W1005 (Or.inr (slot_ne (Or.inr (hw _ (List.mem_of_getElem? (i := 46) rfl))) (Or.inr (hw _ (List.mem_of_getElem? (i := 44) rfl))) (by decide) (t := .long) (t' := .long) (by decide) (by decide)))
  have Fw1005 : Fld Z h1005 a1 "com/example/tallyward/tallyward/io/KeyFilter$Blocks" "first" "J" (.long q1) := fF_a1_first_1004.same W1005
  have K1005 : Keep h0 h1005 [a1] := K1004.wr W1005 (Or.inl (List.mem_of_getElem? (i := 0) rfl))
  have N1005 := Fr.snoc X1005 N1004 g_a1
  refine go (T' := T1005) (g' := (mkF m 14 #[.val (.ref a1), .val (.int p1), .val (.long q1), .second, .val (.long q2), .second] [])) st1005 ?_
  refine go (T' := T1005) (g' := (mkF m 15 #[.val (.ref a1), .val (.int p1), .val (.long q1), .second, .val (.long q2), .second] [(.ref a1)])) (fun t kt => XS.aloadN X1005.here hx rfl (hb hby d8_14) rfl rfl kt) ?_
  refine go (T' := T1005) (g' := (mkF m 16 #[.val (.ref a1), .val (.int p1), .val (.long q1), .second, .val (.long q2), .second] [(.int p1), (.ref a1)])) (fun t kt => XS.iloadN X1005.here hx rfl (hb hby d8_15) rfl kt) ?_
  refine go (T' := T1005) (g' := (mkF m 17 #[.val (.ref a1), .val (.int p1), .val (.long q1), .second, .val (.long q2), .second] [(.long (p1.toInt64)), (.ref a1)])) (fun t kt => XS.i2l X1005.here hx rfl (hb hby d8_16) rfl kt) ?_
  refine go (T' := T1005) (g' := (mkF m 19 #[.val (.ref a1), .val (.int p1), .val (.long q1), .second, .val (.long q2), .second] [(.int (32 : Int32)), (.long (p1.toInt64)), (.ref a1)])) (fun t kt => XS.bipush X1005.here hx rfl (hb hby d8_17) kt) ?_
  refine go (T' := T1005) (g' := (mkF m 20 #[.val (.ref a1), .val (.int p1), .val (.long q1), .second, .val (.long q2), .second] [(.long ((p1.toInt64) <<< ((32 : Int32) &&& 0x3f).toInt64)), (.ref a1)])) (fun t kt => XS.lshl X1005.here hx rfl (hb hby d8_19) rfl kt) ?_
  refine go (T' := T1005) (g' := (mkF m 22 #[.val (.ref a1), .val (.int p1), .val (.long q1), .second, .val (.long q2), .second] [(.long q2), (.long ((p1.toInt64) <<< ((32 : Int32) &&& 0x3f).toInt64)), (.ref a1)])) (fun t kt => XS.lload X1005.here hx rfl (hb hby d8_20) rfl kt) ?_
  refine go (T' := T1005) (g' := (mkF m 23 #[.val (.ref a1), .val (.int p1), .val (.long q1), .second, .val (.long q2), .second] [(.long q1), (.long q2), (.long ((p1.toInt64) <<< ((32 : Int32) &&& 0x3f).toInt64)), (.ref a1)])) (fun t kt => XS.lloadN X1005.here hx rfl (hb hby d8_22) rfl kt) ?_
  refine go (T' := T1005) (g' := (mkF m 24 #[.val (.ref a1), .val (.int p1), .val (.long q1), .second, .val (.long q2), .second] [(.long (q2 - q1)), (.long ((p1.toInt64) <<< ((32 : Int32) &&& 0x3f).toInt64)), (.ref a1)])) (fun t kt => XS.lsub X1005.here hx rfl (hb hby d8_23) rfl kt) ?_
  refine go (T' := T1005) (g' := (mkF m 26 #[.val (.ref a1), .val (.int p1), .val (.long q1), .second, .val (.long q2), .second] [(.int (32 : Int32)), (.long (q2 - q1)), (.long ((p1.toInt64) <<< ((32 : Int32) &&& 0x3f).toInt64)), (.ref a1)])) (fun t kt => XS.bipush X1005.here hx rfl (hb hby d8_24) kt) ?_
  refine go (T' := T1005) (g' := (mkF m 27 #[.val (.ref a1), .val (.int p1), .val (.long q1), .second, .val (.long q2), .second] [(.long (((q2 - q1).toUInt64 >>> ((32 : Int32) &&& 0x3f).toInt64.toUInt64).toInt64)), (.long ((p1.toInt64) <<< ((32 : Int32) &&& 0x3f).toInt64)), (.ref a1)])) (fun t kt => XS.lushr X1005.here hx rfl (hb hby d8_26) rfl kt) ?_
  refine go (T' := T1005) (g' := (mkF m 28 #[.val (.ref a1), .val (.int p1), .val (.long q1), .second, .val (.long q2), .second] [(.long (1 : Int64)), (.long (((q2 - q1).toUInt64 >>> ((32 : Int32) &&& 0x3f).toInt64.toUInt64).toInt64)), (.long ((p1.toInt64) <<< ((32 : Int32) &&& 0x3f).toInt64)), (.ref a1)])) (fun t kt => XS.lconst X1005.here hx rfl (hb hby d8_27) kt) ?_
  refine go (T' := T1005) (g' := (mkF m 29 #[.val (.ref a1), .val (.int p1), .val (.long q1), .second, .val (.long q2), .second] [(.long ((((q2 - q1).toUInt64 >>> ((32 : Int32) &&& 0x3f).toInt64.toUInt64).toInt64) + (1 : Int64))), (.long ((p1.toInt64) <<< ((32 : Int32) &&& 0x3f).toInt64)), (.ref a1)])) (fun t kt => XS.ladd X1005.here hx rfl (hb hby d8_28) rfl kt) ?_
  refine go (T' := T1005) (g' := (mkF m 30 #[.val (.ref a1), .val (.int p1), .val (.long q1), .second, .val (.long q2), .second] [(.long (((p1.toInt64) <<< ((32 : Int32) &&& 0x3f).toInt64) / ((((q2 - q1).toUInt64 >>> ((32 : Int32) &&& 0x3f).toInt64.toUInt64).toInt64) + (1 : Int64)))), (.ref a1)])) (fun t kt => XS.ldiv X1005.here hx rfl (hb hby d8_29) rfl hz kt) ?_
  obtain ⟨T1006, h1006, X1006, e1006, W1006, st1006⟩ := putF X1005 hx hZ hown (host := "") (Or.inl (hw _ (List.mem_of_getElem? (i := 45) rfl))) Via.refl e1005 fF_a1_scale_1005 fE_a1_1005 (Or.inr ⟨(hw _ (List.mem_of_getElem? (i := 46) rfl)), rfl, hnm⟩) (hw _ (List.mem_of_getElem? (i := 35) rfl)) (ty := .long) (by decide) rfl rfl (g := (mkF m 30 #[.val (.ref a1), .val (.int p1), .val (.long q1), .second, .val (.long q2), .second] [(.long (((p1.toInt64) <<< ((32 : Int32) &&& 0x3f).toInt64) / ((((q2 - q1).toUInt64 >>> ((32 : Int32) &&& 0x3f).toInt64.toUInt64).toInt64) + (1 : Int64)))), (.ref a1)])) rfl rfl (hb hby d8_30)
  have z1006 : n0 ≤ h1006.size := Nat.le_trans z1005 (Keep.of_wr W1006).1
  have fE_a1_1006 : Exa Z h1006 a1 "com/example/tallyward/tallyward/io/KeyFilter$Blocks" := fE_a1_1005.wr W1006
  have fF_a1_count_1006 : Fld Z h1006 a1 "com/example/tallyward/tallyward/io/KeyFilter$Blocks" "count" "I" (.int p1) := fF_a1_count_1005.other W1006 (Or.inr (slot_ne (Or.inr (hw _ (List.mem_of_getElem? (i := 42) rfl))) (Or.inr (hw _ (List.mem_of_getElem? (i := 46) rfl))) (by decide) (t := .int) (t' := .long) (by decide) (by decide)))
  have fF_a1_first_1006 : Fld Z h1006 a1 "com/example/tallyward/tallyward/io/KeyFilter$Blocks" "first" "J" (.long q1) := Fw1005.other W1006 (Or.inr (slot_ne (Or.inr (hw _ (List.mem_of_getElem? (i := 44) rfl))) (Or.inr (hw _ (List.mem_of_getElem? (i := 46) rfl))) (by decide) (t := .long) (t' := .long) (by decide) (by decide)))
  have Fw1006 : Fld Z h1006 a1 "com/example/tallyward/tallyward/io/KeyFilter$Blocks" "scale" "J" (.long (((p1.toInt64) <<< ((32 : Int32) &&& 0x3f).toInt64) / ((((q2 - q1).toUInt64 >>> ((32 : Int32) &&& 0x3f).toInt64.toUInt64).toInt64) + (1 : Int64)))) := fF_a1_scale_1005.same W1006
  have K1006 : Keep h0 h1006 [a1] := K1005.wr W1006 (Or.inl (List.mem_of_getElem? (i := 0) rfl))
  have N1006 := Fr.snoc X1006 N1005 g_a1
  refine go (T' := T1006) (g' := (mkF m 33 #[.val (.ref a1), .val (.int p1), .val (.long q1), .second, .val (.long q2), .second] [])) st1006 ?_
  refine goRetV X1006 hx hlk Bd.returns (hb hby d8_33) ?_ (by decide) (by decide)
  rw [e1006]
  exact ⟨rfl, N1006, K1006, fF_a1_count_1006⟩
theorem d2_0 : decode prog_57_method_1_code 0 = .ok (.aload_n 0, 1) := by decide +kernel
theorem d2_1 : decode prog_57_method_1_code 1 = .ok (.invokespecial 3, 3) := by decide +kernel
theorem d2_4 : decode prog_57_method_1_code 4 = .ok (.lload_n 1, 1) := by decide +kernel
theorem d2_5 : decode prog_57_method_1_code 5 = .ok (.invokestatic 9, 3) := by decide +kernel
theorem d2_8 : decode prog_57_method_1_code 8 = .ok (.istore 7, 2) := by decide +kernel
theorem d2_10 : decode prog_57_method_1_code 10 = .ok (.aload_n 0, 1) := by decide +kernel
theorem d2_11 : decode prog_57_method_1_code 11 = .ok (.iload 7, 2) := by decide +kernel
theorem d2_13 : decode prog_57_method_1_code 13 = .ok (.bipush 8, 2) := by decide +kernel
theorem d2_15 : decode prog_57_method_1_code 15 = .ok (.invokestatic 13, 3) := by decide +kernel
theorem d2_18 : decode prog_57_method_1_code 18 = .ok (.newarray .long, 2) := by decide +kernel
theorem d2_20 : decode prog_57_method_1_code 20 = .ok (.putfield 19, 3) := by decide +kernel
theorem d2_23 : decode prog_57_method_1_code 23 = .ok (.aload_n 0, 1) := by decide +kernel
theorem d2_24 : decode prog_57_method_1_code 24 = .ok (.new 25, 3) := by decide +kernel
theorem d2_27 : decode prog_57_method_1_code 27 = .ok (.dup, 1) := by decide +kernel
theorem d2_28 : decode prog_57_method_1_code 28 = .ok (.iload 7, 2) := by decide +kernel
theorem d2_30 : decode prog_57_method_1_code 30 = .ok (.lload_n 3, 1) := by decide +kernel
theorem d2_31 : decode prog_57_method_1_code 31 = .ok (.lload 5, 2) := by decide +kernel
theorem d2_33 : decode prog_57_method_1_code 33 = .ok (.invokespecial 27, 3) := by decide +kernel
theorem d2_36 : decode prog_57_method_1_code 36 = .ok (.putfield 30, 3) := by decide +kernel
theorem d2_39 : decode prog_57_method_1_code 39 = .ok (.return_, 1) := by decide +kernel
theorem pd_2 : parseMethodDescriptor "(II)I" = some ⟨[.int, .int], some .int⟩ := by decide +kernel
theorem pd_3 : parseMethodDescriptor "(IJJ)V" = some ⟨[.int, .long, .long], none⟩ := by decide +kernel
theorem pn_2 : plainName "com/example/tallyward/tallyward/io/KeyFilter$Building" = true := by first | (simp [plainName, overriddenIn]; done) | decide +kernel
theorem ef_2 (m : MethodId) (a1 : Addr) (q1 : Int64) (q2 : Int64) (q3 : Int64) : entryFrame m #[(.ref a1), (.long q1), (.long q2), (.long q3)] 8 = mkF m 0 #[.val (.ref a1), .val (.long q1), .second, .val (.long q2), .second, .val (.long q3), .second, .unset] [] := by first | (simp [entryFrame, mkF, argsToLocals, Value.category]; done) | rfl
def Q2 (Z : State) (a1 : Addr) (q1 : Int64) (q2 : Int64) (q3 : Int64) (n : Nat) (h0 : Heap) (n0 : Nat) (v : Option Value) (h : Heap) (L : List Loc) : Prop := v = none ∧ Fr n0 L ∧ Keep h0 h [a1] ∧ ∃ bw bb, bw ≠ a1 ∧ bb ≠ a1 ∧ Fld Z h a1 "com/example/tallyward/tallyward/io/KeyFilter$Building" "words" "[J" (.ref bw) ∧ Aw Z h bw .long (Int32.ofNat (8 * n)) (fun _ => .long 0) ∧ Fld Z h a1 "com/example/tallyward/tallyward/io/KeyFilter$Building" "blocks" "Lcom/example/tallyward/tallyward/io/KeyFilter$Blocks;" (.ref bb) ∧ Fld Z h bb "com/example/tallyward/tallyward/io/KeyFilter$Blocks" "count" "I" (.int (Int32.ofNat n))
set_option maxRecDepth 65536 in
set_option maxHeartbeats 40000000 in
theorem rm2 (l : Launch) (Z : State) (a0 : Array Value) (hw : ∀ d ∈ tables_1, d.before a0 Z = true) (ws : List Jvm.Cond) (a1 : Addr) (q1 : Int64) (q2 : Int64) (q3 : Int64) (n : Nat) (h0 : Heap) (n0 : Nat) (Z0 : n0 ≤ h0.size) (g_a1 : n0 ≤ a1) (E1 : Exa Z h0 a1 "com/example/tallyward/tallyward/io/KeyFilter$Building") (F0 : Fld Z h0 a1 "com/example/tallyward/tallyward/io/KeyFilter$Building" "words" "[J" .null) (F1 : Fld Z h0 a1 "com/example/tallyward/tallyward/io/KeyFilter$Building" "blocks" "Lcom/example/tallyward/tallyward/io/KeyFilter$Blocks;" .null) (hq2 : q2 = 0) (hq3 : q3 = 0) (hr : (own_raw q1).toInt32.toInt64 = own_raw q1) (hb1 : (own_raw q1).toInt32 = Int32.ofNat n) (hn : n = 1 ∨ n = 2) :
    MetFree l (⟨"com/example/tallyward/tallyward/io/KeyFilter$Building", "<init>", "(JJJ)V"⟩ : MethodName) (head1 (Jvm.Cond.code (⟨"com/example/tallyward/tallyward/io/KeyFilter$Building", "<init>", "(JJJ)V"⟩ : MethodName) prog_57_method_1_code 8 none :: ws) ({ frames := 2, cells := 2, slots := 19, locals := 31 } : Room)) (fun a U => a = #[(.ref a1), (.long q1), (.long q2), (.long q3)] ∧ Z.Warmed39 U.vm ∧ U.heap = h0) (fun _ _ _ _ _ => True) (fun _ U o U' => ∃ v L, o = .returned v ∧ Q2 Z a1 q1 q2 q3 n h0 n0 v U'.heap L ∧ FrameEnd U o U' L ({ frames := 2, cells := 2, slots := 19, locals := 31 } : Room).cells ({ frames := 2, cells := 2, slots := 19, locals := 31 } : Room).slots) := by
  refine MetFree.of_bodySF (plainFor_of_name pn_2) hisR ?_
  intro p e s m args below meth c s₁ Bd hml0 hP hK
  obtain ⟨rfl, hZ, hh⟩ := hP
  have hx := Bd.exec
  have hby := Bd.bytes
  have hlk := Bd.notSynchronized
  have hml : c.maxLocals = 8 := hml0
  have hown : s.vm.findClass "com/example/tallyward/tallyward/io/KeyFilter$Building" = some m.cls := findClass_of_methodNamed Bd.named
  have hnm := (name_of_methodNamed Bd.named Bd.method).1
  have X0 : Stand p l e ({ frames := 2, cells := 2, slots := 19, locals := 31 } : Room) s m #[(.ref a1), (.long q1), (.long q2), (.long q3)] below meth c s₁ [] 0 0 := Stand.of_body Bd
  have e0 : s₁.heap = h0 := by rw [← hh, Bd.state]; rfl
  have N0 := Fr.nil n0
  show Goes p e below s 2 19 (Q2 Z a1 q1 q2 q3 n h0 n0) s₁ (entryFrame m #[(.ref a1), (.long q1), (.long q2), (.long q3)] 8)
  refine goEq (ef_2 m a1 q1 q2 q3) ?_
  refine go (T' := s₁) (g' := (mkF m 1 #[.val (.ref a1), .val (.long q1), .second, .val (.long q2), .second, .val (.long q3), .second, .unset] [(.ref a1)])) (fun t kt => XS.aloadN X0.here hx rfl (hb hby d2_0) rfl rfl kt) ?_
  obtain ⟨T1007, X1007, e1007, st1007⟩ := initO X0 hx hZ hown (hw _ (List.mem_of_getElem? (i := 13) rfl)) (hw _ (List.mem_of_getElem? (i := 14) rfl)) (hw _ (List.mem_of_getElem? (i := 15) rfl)) e0 (g := (mkF m 1 #[.val (.ref a1), .val (.long q1), .second, .val (.long q2), .second, .val (.long q3), .second, .unset] [(.ref a1)])) rfl (by rw [hml]; rfl) rfl (hb hby d2_1) (by decide) (W := 0) (by show 2 * 0 + _ ≤ _; exact Nat.le_of_eq rfl) (by decide)
  refine go (T' := T1007) (g' := (mkF m 4 #[.val (.ref a1), .val (.long q1), .second, .val (.long q2), .second, .val (.long q3), .second, .unset] [])) st1007 ?_
  refine go (T' := T1007) (g' := (mkF m 5 #[.val (.ref a1), .val (.long q1), .second, .val (.long q2), .second, .val (.long q3), .second, .unset] [(.long q1)])) (fun t kt => XS.lloadN X1007.here hx rfl (hb hby d2_4) rfl kt) ?_
  obtain ⟨_, _, ⟨T1008, L1008, k1008, n1008⟩, -, X1008, ⟨Lc1008, hQ1008, l1008, y1008, z1008⟩, st1008⟩ := Jvm.LawKit.callS X1007 hx (y := (⟨"com/example/tallyward/tallyward/io/KeyFilter", "blocks", "(J)I"⟩ : MethodName)) hown (mvT hZ (hw _ (List.mem_of_getElem? (i := 16) rfl))) (mvT hZ (hw _ (List.mem_of_getElem? (i := 17) rfl))) (mvT hZ (hw _ (List.mem_of_getElem? (i := 4) rfl))) (mvT hZ (hw _ (List.mem_of_getElem? (i := 18) rfl))) (by decide) (backOf (W := 0) (rm4 l Z a0 hw [] q1 h0 n0 Z0 hr) hZ (hw _ (List.mem_of_getElem? (i := 18) rfl)) (hw _ (List.mem_of_getElem? (i := 4) rfl)) (by decide) (by decide)) (g := (mkF m 5 #[.val (.ref a1), .val (.long q1), .second, .val (.long q2), .second, .val (.long q3), .second, .unset] [(.long q1)])) rfl (by rw [hml]; rfl) (argsL := [(.long q1)]) (rest := []) (lenOf pd_1 rfl) rfl (by show 2 * 0 + _ ≤ _; exact Nat.le_of_eq rfl) (hb hby d2_5) (fun _ _ => ⟨rfl, e1007, (by decide : 0 + 0 ≤ _), (by decide : 0 + 0 ≤ _)⟩)
  dsimp only [Pt.U, Pt.locs, Pt.cells, Pt.slots] at X1008 l1008 y1008 z1008 st1008 hQ1008
  subst l1008 y1008 z1008
  obtain ⟨rfl, N1008q, e1008⟩ := hQ1008
  have N1008 := Fr.app N0 N1008q
  refine go (T' := T1008) (g' := (mkF m 8 #[.val (.ref a1), .val (.long q1), .second, .val (.long q2), .second, .val (.long q3), .second, .unset] [(.int (own_raw q1).toInt32)])) st1008 ?_
  refine goEq (g' := (mkF m 8 #[.val (.ref a1), .val (.long q1), .second, .val (.long q2), .second, .val (.long q3), .second, .unset] [(.int (Int32.ofNat n))])) (by rw [hb1]) ?_
  refine go (T' := T1008) (g' := (mkF m 10 #[.val (.ref a1), .val (.long q1), .second, .val (.long q2), .second, .val (.long q3), .second, .val (.int (Int32.ofNat n))] [])) (fun t kt => XS.istore X1008.here hx rfl (hb hby d2_8) rfl (l' := #[.val (.ref a1), .val (.long q1), .second, .val (.long q2), .second, .val (.long q3), .second, .val (.int (Int32.ofNat n))]) rfl kt) ?_
  refine go (T' := T1008) (g' := (mkF m 11 #[.val (.ref a1), .val (.long q1), .second, .val (.long q2), .second, .val (.long q3), .second, .val (.int (Int32.ofNat n))] [(.ref a1)])) (fun t kt => XS.aloadN X1008.here hx rfl (hb hby d2_10) rfl rfl kt) ?_
  refine go (T' := T1008) (g' := (mkF m 13 #[.val (.ref a1), .val (.long q1), .second, .val (.long q2), .second, .val (.long q3), .second, .val (.int (Int32.ofNat n))] [(.int (Int32.ofNat n)), (.ref a1)])) (fun t kt => XS.iload X1008.here hx rfl (hb hby d2_11) rfl kt) ?_
  refine go (T' := T1008) (g' := (mkF m 15 #[.val (.ref a1), .val (.long q1), .second, .val (.long q2), .second, .val (.long q3), .second, .val (.int (Int32.ofNat n))] [(.int (8 : Int32)), (.int (Int32.ofNat n)), (.ref a1)])) (fun t kt => XS.bipush X1008.here hx rfl (hb hby d2_13) kt) ?_
  have hm : ((Int32.ofNat n).toInt64 * (8 : Int32).toInt64).toInt32.toInt64 = (Int32.ofNat n).toInt64 * (8 : Int32).toInt64 ∧ ((Int32.ofNat n).toInt64 * (8 : Int32).toInt64).toInt32 = Int32.ofNat (8 * n) ∧ ¬ Int32.ofNat (8 * n) < 0 ∧ (Int32.ofNat (8 * n)).toNatClampNeg ≤ 16 := by rcases hn with rfl | rfl <;> decide
  obtain ⟨_, _, ⟨T1009, L1009, k1009, n1009⟩, -, X1009, ⟨Lc1009, hQ1009, l1009, y1009, z1009⟩, st1009⟩ := Jvm.LawKit.callS X1008 hx (y := (⟨"java/lang/Math", "multiplyExact", "(II)I"⟩ : MethodName)) hown (mvT hZ (hw _ (List.mem_of_getElem? (i := 28) rfl))) (mvT hZ (hw _ (List.mem_of_getElem? (i := 29) rfl))) (mvT hZ (hw _ (List.mem_of_getElem? (i := 23) rfl))) (mvT hZ (hw _ (List.mem_of_getElem? (i := 30) rfl))) (by decide) (backOf (W := 1) (rm7 l Z a0 hw [] (Int32.ofNat n) 8 h0 n0 Z0 hm.1) hZ (hw _ (List.mem_of_getElem? (i := 30) rfl)) (hw _ (List.mem_of_getElem? (i := 23) rfl)) (by decide) (by decide)) (g := (mkF m 15 #[.val (.ref a1), .val (.long q1), .second, .val (.long q2), .second, .val (.long q3), .second, .val (.int (Int32.ofNat n))] [(.int (8 : Int32)), (.int (Int32.ofNat n)), (.ref a1)])) rfl (by rw [hml]; rfl) (argsL := [(.int (Int32.ofNat n)), (.int (8 : Int32))]) (rest := [(.ref a1)]) (lenOf pd_2 rfl) rfl (by show 2 * 0 + _ ≤ _; exact Nat.le_of_eq rfl) (hb hby d2_15) (fun _ _ => ⟨rfl, e1008, (by decide : 0 + 0 ≤ _), (by decide : 0 + 0 ≤ _)⟩)
  dsimp only [Pt.U, Pt.locs, Pt.cells, Pt.slots] at X1009 l1009 y1009 z1009 st1009 hQ1009
  subst l1009 y1009 z1009
  obtain ⟨rfl, N1009q, e1009⟩ := hQ1009
  have N1009 := Fr.app N1008 N1009q
  refine go (T' := T1009) (g' := (mkF m 18 #[.val (.ref a1), .val (.long q1), .second, .val (.long q2), .second, .val (.long q3), .second, .val (.int (Int32.ofNat n))] [(.int ((Int32.ofNat n).toInt64 * (8 : Int32).toInt64).toInt32), (.ref a1)])) st1009 ?_
  refine goEq (g' := (mkF m 18 #[.val (.ref a1), .val (.long q1), .second, .val (.long q2), .second, .val (.long q3), .second, .val (.int (Int32.ofNat n))] [(.int (Int32.ofNat (8 * n))), (.ref a1)])) (by rw [hm.2.1]) ?_
  obtain ⟨T1010, h1010, kc1010, X1010, e1010, E1010, A1010, st1010⟩ := newP X1009 hx hZ (hw _ (List.mem_of_getElem? (i := 31) rfl)) e1009 (g := (mkF m 18 #[.val (.ref a1), .val (.long q1), .second, .val (.long q2), .second, .val (.long q3), .second, .val (.int (Int32.ofNat n))] [(.int (Int32.ofNat (8 * n))), (.ref a1)])) rfl (hb hby d2_18) rfl hm.2.2.1 (cap := 16) hm.2.2.2 (by decide) (by decide) (by decide)
  obtain ⟨bw, g1010⟩ : ∃ z, z = h0.size := ⟨_, rfl⟩
  rw [← g1010] at A1010 st1010
  have ne_a1_bw : a1 ≠ bw := Nat.ne_of_lt (Nat.lt_of_lt_of_le E1.lt (Nat.le_of_eq g1010.symm))
  have g_bw : n0 ≤ bw := Nat.le_trans Z0 (Nat.le_of_eq g1010.symm)
  have o_bw : h0.size ≤ bw := Nat.le_trans (Keep.refl h0 [a1]).1 (Nat.le_of_eq g1010.symm)
  have z1010 : n0 ≤ h1010.size := Nat.le_trans Z0 E1010.1
  have fE_a1_1010 : Exa Z h1010 a1 "com/example/tallyward/tallyward/io/KeyFilter$Building" := E1.ext E1010
  have fF_a1_words_1010 : Fld Z h1010 a1 "com/example/tallyward/tallyward/io/KeyFilter$Building" "words" "[J" .null := F0.ext E1010
  have fF_a1_blocks_1010 : Fld Z h1010 a1 "com/example/tallyward/tallyward/io/KeyFilter$Building" "blocks" "Lcom/example/tallyward/tallyward/io/KeyFilter$Blocks;" .null := F1.ext E1010
  have K1010 : Keep h0 h1010 [a1] := (Keep.refl h0 [a1]).ext E1010
  have V_bw : Aw Z h1010 bw .long (Int32.ofNat (8 * n)) (fun _ => defaultValue .long) := Aw.new A1010 hm.2.2.1
  refine go (T' := T1010) (g' := (mkF m 20 #[.val (.ref a1), .val (.long q1), .second, .val (.long q2), .second, .val (.long q3), .second, .val (.int (Int32.ofNat n))] [(.ref bw), (.ref a1)])) st1010 ?_
  have Vw : Aw Z h1010 bw .long (Int32.ofNat (8 * n)) (fun _ => .long 0) := V_bw.congr (fun _ _ => rfl)
  obtain ⟨T1011, h1011, X1011, e1011, W1011, st1011⟩ := putF X1010 hx hZ hown (host := "") (Or.inl (hw _ (List.mem_of_getElem? (i := 32) rfl))) Via.refl e1010 fF_a1_words_1010 fE_a1_1010 (Or.inr ⟨(hw _ (List.mem_of_getElem? (i := 33) rfl)), rfl, hnm⟩) (hw _ (List.mem_of_getElem? (i := 7) rfl)) (ty := (.array .long)) (by decide) rfl rfl (g := (mkF m 20 #[.val (.ref a1), .val (.long q1), .second, .val (.long q2), .second, .val (.long q3), .second, .val (.int (Int32.ofNat n))] [(.ref bw), (.ref a1)])) rfl rfl (hb hby d2_20)
  have z1011 : n0 ≤ h1011.size := Nat.le_trans z1010 (Keep.of_wr W1011).1
  have fE_a1_1011 : Exa Z h1011 a1 "com/example/tallyward/tallyward/io/KeyFilter$Building" := fE_a1_1010.wr W1011
  have fF_a1_blocks_1011 : Fld Z h1011 a1 "com/example/tallyward/tallyward/io/KeyFilter$Building" "blocks" "Lcom/example/tallyward/tallyward/io/KeyFilter$Blocks;" .null := fF_a1_blocks_1010.other W1011 (Or.inr (slot_ne (Or.inr (hw _ (List.mem_of_getElem? (i := 48) rfl))) (Or.inr (hw _ (List.mem_of_getElem? (i := 33) rfl))) (by decide) (t := (.object "com/example/tallyward/tallyward/io/KeyFilter$Blocks")) (t' := (.array .long)) (by decide) (by decide)))
  have fA_bw_1011 : Aw Z h1011 bw .long (Int32.ofNat (8 * n)) (fun _ => .long 0) := Vw.other W1011 (Ne.symm ne_a1_bw)
  have Fw1011 : Fld Z h1011 a1 "com/example/tallyward/tallyward/io/KeyFilter$Building" "words" "[J" (.ref bw) := fF_a1_words_1010.same W1011
  have K1011 : Keep h0 h1011 [a1] := K1010.wr W1011 (Or.inl (List.mem_of_getElem? (i := 0) rfl))
  have N1011 := Fr.snoc X1011 N1009 g_a1
  refine go (T' := T1011) (g' := (mkF m 23 #[.val (.ref a1), .val (.long q1), .second, .val (.long q2), .second, .val (.long q3), .second, .val (.int (Int32.ofNat n))] [])) st1011 ?_
  refine go (T' := T1011) (g' := (mkF m 24 #[.val (.ref a1), .val (.long q1), .second, .val (.long q2), .second, .val (.long q3), .second, .val (.int (Int32.ofNat n))] [(.ref a1)])) (fun t kt => XS.aloadN X1011.here hx rfl (hb hby d2_23) rfl rfl kt) ?_
  obtain ⟨T1012, h1012, X1012, e1012, E1012, A1012, D1012, -, st1012⟩ := newO X1011 hx hZ hown (hw _ (List.mem_of_getElem? (i := 34) rfl)) (hw _ (List.mem_of_getElem? (i := 35) rfl)) (hw _ (List.mem_of_getElem? (i := 36) rfl)) e1011 (g := (mkF m 24 #[.val (.ref a1), .val (.long q1), .second, .val (.long q2), .second, .val (.long q3), .second, .val (.int (Int32.ofNat n))] [(.ref a1)])) rfl (hb hby d2_24) (by decide) (by decide)
  obtain ⟨bb, g1012⟩ : ∃ z, z = h1011.size := ⟨_, rfl⟩
  rw [← g1012] at A1012 D1012 st1012
  have ne_a1_bb : a1 ≠ bb := Nat.ne_of_lt (Nat.lt_of_lt_of_le fE_a1_1011.lt (Nat.le_of_eq g1012.symm))
  have ne_bw_bb : bw ≠ bb := Nat.ne_of_lt (Nat.lt_of_lt_of_le fA_bw_1011.lt (Nat.le_of_eq g1012.symm))
  have g_bb : n0 ≤ bb := Nat.le_trans z1011 (Nat.le_of_eq g1012.symm)
  have o_bb : h0.size ≤ bb := Nat.le_trans K1011.1 (Nat.le_of_eq g1012.symm)
  have z1012 : n0 ≤ h1012.size := Nat.le_trans z1011 E1012.1
  have fE_a1_1012 : Exa Z h1012 a1 "com/example/tallyward/tallyward/io/KeyFilter$Building" := fE_a1_1011.ext E1012
  have fF_a1_words_1012 : Fld Z h1012 a1 "com/example/tallyward/tallyward/io/KeyFilter$Building" "words" "[J" (.ref bw) := Fw1011.ext E1012
  have fF_a1_blocks_1012 : Fld Z h1012 a1 "com/example/tallyward/tallyward/io/KeyFilter$Building" "blocks" "Lcom/example/tallyward/tallyward/io/KeyFilter$Blocks;" .null := fF_a1_blocks_1011.ext E1012
  have fA_bw_1012 : Aw Z h1012 bw .long (Int32.ofNat (8 * n)) (fun _ => .long 0) := fA_bw_1011.ext E1012
  have K1012 : Keep h0 h1012 [a1] := K1011.ext E1012
  have F_count_bb : Fld Z h1012 bb "com/example/tallyward/tallyward/io/KeyFilter$Blocks" "count" "I" (.int (0 : Int32)) := D1012 (Or.inr (hw _ (List.mem_of_getElem? (i := 42) rfl))) (ty := .int) (by decide)
  have F_first_bb : Fld Z h1012 bb "com/example/tallyward/tallyward/io/KeyFilter$Blocks" "first" "J" (.long (0 : Int64)) := D1012 (Or.inr (hw _ (List.mem_of_getElem? (i := 44) rfl))) (ty := .long) (by decide)
  have F_scale_bb : Fld Z h1012 bb "com/example/tallyward/tallyward/io/KeyFilter$Blocks" "scale" "J" (.long (0 : Int64)) := D1012 (Or.inr (hw _ (List.mem_of_getElem? (i := 46) rfl))) (ty := .long) (by decide)
  refine go (T' := T1012) (g' := (mkF m 27 #[.val (.ref a1), .val (.long q1), .second, .val (.long q2), .second, .val (.long q3), .second, .val (.int (Int32.ofNat n))] [(.ref bb), (.ref a1)])) st1012 ?_
  refine go (T' := T1012) (g' := (mkF m 28 #[.val (.ref a1), .val (.long q1), .second, .val (.long q2), .second, .val (.long q3), .second, .val (.int (Int32.ofNat n))] [(.ref bb), (.ref bb), (.ref a1)])) (fun t kt => XS.dup X1012.here hx rfl (hb hby d2_27) rfl rfl kt) ?_
  refine go (T' := T1012) (g' := (mkF m 30 #[.val (.ref a1), .val (.long q1), .second, .val (.long q2), .second, .val (.long q3), .second, .val (.int (Int32.ofNat n))] [(.int (Int32.ofNat n)), (.ref bb), (.ref bb), (.ref a1)])) (fun t kt => XS.iload X1012.here hx rfl (hb hby d2_28) rfl kt) ?_
  refine go (T' := T1012) (g' := (mkF m 31 #[.val (.ref a1), .val (.long q1), .second, .val (.long q2), .second, .val (.long q3), .second, .val (.int (Int32.ofNat n))] [(.long q2), (.int (Int32.ofNat n)), (.ref bb), (.ref bb), (.ref a1)])) (fun t kt => XS.lloadN X1012.here hx rfl (hb hby d2_30) rfl kt) ?_
  refine go (T' := T1012) (g' := (mkF m 33 #[.val (.ref a1), .val (.long q1), .second, .val (.long q2), .second, .val (.long q3), .second, .val (.int (Int32.ofNat n))] [(.long q3), (.long q2), (.int (Int32.ofNat n)), (.ref bb), (.ref bb), (.ref a1)])) (fun t kt => XS.lload X1012.here hx rfl (hb hby d2_31) rfl kt) ?_
  obtain ⟨_, _, ⟨T1013, L1013, k1013, n1013⟩, -, X1013, ⟨Lc1013, hQ1013, l1013, y1013, z1013⟩, st1013⟩ := X1012.specialBack hx (y := (⟨"com/example/tallyward/tallyward/io/KeyFilter$Blocks", "<init>", "(IJJ)V"⟩ : MethodName)) rfl hown (mvT hZ (hw _ (List.mem_of_getElem? (i := 37) rfl))) (mvT hZ (hw _ (List.mem_of_getElem? (i := 38) rfl))) (mvT hZ (hw _ (List.mem_of_getElem? (i := 39) rfl))) (by decide) (backOf (W := 2) (rm8 l Z a0 hw [] bb (Int32.ofNat n) q2 q3 h1012 n0 z1012 g_bb A1012 F_count_bb F_first_bb F_scale_bb (by rw [hq2, hq3]; decide)) hZ (hw _ (List.mem_of_getElem? (i := 39) rfl)) (hw _ (List.mem_of_getElem? (i := 36) rfl)) (by decide) (by decide)) (g := (mkF m 33 #[.val (.ref a1), .val (.long q1), .second, .val (.long q2), .second, .val (.long q3), .second, .val (.int (Int32.ofNat n))] [(.long q3), (.long q2), (.int (Int32.ofNat n)), (.ref bb), (.ref bb), (.ref a1)])) rfl (by rw [hml]; rfl) (Steps.refl _) (a := bb) (argsL := [(.int (Int32.ofNat n)), (.long q2), (.long q3)]) (rest := [(.ref bb), (.ref a1)]) (lenOf pd_3 rfl) rfl (by show 2 * 0 + _ ≤ _; exact Nat.le_of_eq rfl) (hb hby d2_33) (fun _ _ => ⟨rfl, e1012, (by decide : 2 + 0 ≤ _), (by decide : 19 + 0 ≤ _)⟩)
  dsimp only [Pt.U, Pt.locs, Pt.cells, Pt.slots] at X1013 l1013 y1013 z1013 st1013 hQ1013
  subst l1013 y1013 z1013
  obtain ⟨rfl, N1013q, K1013, F1013a⟩ := hQ1013
  have N1013 := Fr.app N1011 N1013q
  refine goV (T' := T1013) (g' := (mkF m 36 #[.val (.ref a1), .val (.long q1), .second, .val (.long q2), .second, .val (.long q3), .second, .val (.int (Int32.ofNat n))] [(.ref bb), (.ref a1)])) st1013 ?_
  have z1013 : n0 ≤ T1013.heap.size := Nat.le_trans z1012 K1013.1
  have fE_a1_1013 : Exa Z T1013.heap a1 "com/example/tallyward/tallyward/io/KeyFilter$Building" := fE_a1_1012.keep K1013
  have fF_a1_words_1013 : Fld Z T1013.heap a1 "com/example/tallyward/tallyward/io/KeyFilter$Building" "words" "[J" (.ref bw) := fF_a1_words_1012.keep K1013 (ninS ne_a1_bb nin0)
  have fF_a1_blocks_1013 : Fld Z T1013.heap a1 "com/example/tallyward/tallyward/io/KeyFilter$Building" "blocks" "Lcom/example/tallyward/tallyward/io/KeyFilter$Blocks;" .null := fF_a1_blocks_1012.keep K1013 (ninS ne_a1_bb nin0)
  have fA_bw_1013 : Aw Z T1013.heap bw .long (Int32.ofNat (8 * n)) (fun _ => .long 0) := fA_bw_1012.keep K1013 (ninS ne_bw_bb nin0)
  have fE_bb_1013 : Exa Z T1013.heap bb "com/example/tallyward/tallyward/io/KeyFilter$Blocks" := A1012.keep K1013
  have KK1013 : Keep h0 T1013.heap [a1] := K1012.trans K1013 (allS (Or.inr o_bb) all0)
  obtain ⟨T1014, h1014, X1014, e1014, W1014, st1014⟩ := putF X1013 hx hZ hown (host := "") (Or.inl (hw _ (List.mem_of_getElem? (i := 47) rfl))) Via.refl rfl fF_a1_blocks_1013 fE_a1_1013 (Or.inr ⟨(hw _ (List.mem_of_getElem? (i := 48) rfl)), rfl, hnm⟩) (hw _ (List.mem_of_getElem? (i := 7) rfl)) (ty := (.object "com/example/tallyward/tallyward/io/KeyFilter$Blocks")) (by decide) rfl rfl (g := (mkF m 36 #[.val (.ref a1), .val (.long q1), .second, .val (.long q2), .second, .val (.long q3), .second, .val (.int (Int32.ofNat n))] [(.ref bb), (.ref a1)])) rfl rfl (hb hby d2_36)
  have z1014 : n0 ≤ h1014.size := Nat.le_trans z1013 (Keep.of_wr W1014).1
  have fE_a1_1014 : Exa Z h1014 a1 "com/example/tallyward/tallyward/io/KeyFilter$Building" := fE_a1_1013.wr W1014
  have fF_a1_words_1014 : Fld Z h1014 a1 "com/example/tallyward/tallyward/io/KeyFilter$Building" "words" "[J" (.ref bw) := fF_a1_words_1013.other W1014 (Or.inr (slot_ne (Or.inr (hw _ (List.mem_of_getElem? (i := 33) rfl))) (Or.inr (hw _ (List.mem_of_getElem? (i := 48) rfl))) (by decide) (t := (.array .long)) (t' := (.object "com/example/tallyward/tallyward/io/KeyFilter$Blocks")) (by decide) (by decide)))
  have fA_bw_1014 : Aw Z h1014 bw .long (Int32.ofNat (8 * n)) (fun _ => .long 0) := fA_bw_1013.other W1014 (Ne.symm ne_a1_bw)
  have fE_bb_1014 : Exa Z h1014 bb "com/example/tallyward/tallyward/io/KeyFilter$Blocks" := fE_bb_1013.wr W1014
  have fF_bb_count_1014 : Fld Z h1014 bb "com/example/tallyward/tallyward/io/KeyFilter$Blocks" "count" "I" (.int (Int32.ofNat n)) := F1013a.other W1014 (Or.inl (Ne.symm ne_a1_bb))
  have Fw1014 : Fld Z h1014 a1 "com/example/tallyward/tallyward/io/KeyFilter$Building" "blocks" "Lcom/example/tallyward/tallyward/io/KeyFilter$Blocks;" (.ref bb) := fF_a1_blocks_1013.same W1014
  have K1014 : Keep h0 h1014 [a1] := KK1013.wr W1014 (Or.inl (List.mem_of_getElem? (i := 0) rfl))
  have N1014 := Fr.snoc X1014 N1013 g_a1
  refine go (T' := T1014) (g' := (mkF m 39 #[.val (.ref a1), .val (.long q1), .second, .val (.long q2), .second, .val (.long q3), .second, .val (.int (Int32.ofNat n))] [])) st1014 ?_
  refine goRetV X1014 hx hlk Bd.returns (hb hby d2_39) ?_ (by decide) (by decide)
  rw [e1014]
  exact ⟨rfl, N1014, K1014, bw, bb, Ne.symm ne_a1_bw, Ne.symm ne_a1_bb, fF_a1_words_1014, fA_bw_1014, Fw1014, fF_bb_count_1014⟩
theorem d9_0 : decode prog_57_method_3_code 0 = .ok (.aload_n 0, 1) := by decide +kernel
theorem d9_1 : decode prog_57_method_3_code 1 = .ok (.getfield 30, 3) := by decide +kernel
theorem d9_4 : decode prog_57_method_3_code 4 = .ok (.getfield 44, 3) := by decide +kernel
theorem d9_7 : decode prog_57_method_3_code 7 = .ok (.ireturn, 1) := by decide +kernel
theorem ef_9 (m : MethodId) (a1 : Addr) : entryFrame m #[(.ref a1)] 1 = mkF m 0 #[.val (.ref a1)] [] := by first | (simp [entryFrame, mkF, argsToLocals, Value.category]; done) | rfl
def Q9 (Z : State) (a1 : Addr) (bb : Addr) (n : Nat) (h0 : Heap) (n0 : Nat) (v : Option Value) (h : Heap) (L : List Loc) : Prop := v = some (.int (Int32.ofNat n)) ∧ Fr n0 L ∧ h = h0
set_option maxRecDepth 65536 in
set_option maxHeartbeats 40000000 in
theorem rm9 (l : Launch) (Z : State) (a0 : Array Value) (hw : ∀ d ∈ tables_1, d.before a0 Z = true) (ws : List Jvm.Cond) (a1 : Addr) (bb : Addr) (n : Nat) (h0 : Heap) (n0 : Nat) (Z0 : n0 ≤ h0.size) (Fb : Fld Z h0 a1 "com/example/tallyward/tallyward/io/KeyFilter$Building" "blocks" "Lcom/example/tallyward/tallyward/io/KeyFilter$Blocks;" (.ref bb)) (Fc : Fld Z h0 bb "com/example/tallyward/tallyward/io/KeyFilter$Blocks" "count" "I" (.int (Int32.ofNat n))) :
    MetFree l (⟨"com/example/tallyward/tallyward/io/KeyFilter$Building", "blocks", "()I"⟩ : MethodName) (head1 (Jvm.Cond.code (⟨"com/example/tallyward/tallyward/io/KeyFilter$Building", "blocks", "()I"⟩ : MethodName) prog_57_method_3_code 1 (some .int) :: ws) ({ frames := 0, cells := 0, slots := 0, locals := 0 } : Room)) (fun a U => a = #[(.ref a1)] ∧ Z.Warmed39 U.vm ∧ U.heap = h0) (fun _ _ _ _ _ => True) (fun _ U o U' => ∃ v L, o = .returned v ∧ Q9 Z a1 bb n h0 n0 v U'.heap L ∧ FrameEnd U o U' L ({ frames := 0, cells := 0, slots := 0, locals := 0 } : Room).cells ({ frames := 0, cells := 0, slots := 0, locals := 0 } : Room).slots) := by
  refine MetFree.of_bodySF (plainFor_of_name pn_2) hisR ?_
  intro p e s m args below meth c s₁ Bd hml0 hP hK
  obtain ⟨rfl, hZ, hh⟩ := hP
  have hx := Bd.exec
  have hby := Bd.bytes
  have hlk := Bd.notSynchronized
  have hml : c.maxLocals = 1 := hml0
  have hown : s.vm.findClass "com/example/tallyward/tallyward/io/KeyFilter$Building" = some m.cls := findClass_of_methodNamed Bd.named
  have hnm := (name_of_methodNamed Bd.named Bd.method).1
  have X0 : Stand p l e ({ frames := 0, cells := 0, slots := 0, locals := 0 } : Room) s m #[(.ref a1)] below meth c s₁ [] 0 0 := Stand.of_body Bd
  have e0 : s₁.heap = h0 := by rw [← hh, Bd.state]; rfl
  have N0 := Fr.nil n0
  show Goes p e below s 0 0 (Q9 Z a1 bb n h0 n0) s₁ (entryFrame m #[(.ref a1)] 1)
  refine goEq (ef_9 m a1) ?_
  refine go (T' := s₁) (g' := (mkF m 1 #[.val (.ref a1)] [(.ref a1)])) (fun t kt => XS.aloadN X0.here hx rfl (hb hby d9_0) rfl rfl kt) ?_
  obtain ⟨T1015, X1015, e1015, st1015⟩ := getF X0 hx hZ hown (host := "") (Or.inl (hw _ (List.mem_of_getElem? (i := 47) rfl))) Via.refl e0 Fb (g := (mkF m 1 #[.val (.ref a1)] [(.ref a1)])) rfl rfl (hb hby d9_1)
  refine go (T' := T1015) (g' := (mkF m 4 #[.val (.ref a1)] [(.ref bb)])) st1015 ?_
  obtain ⟨T1016, X1016, e1016, st1016⟩ := getF X1015 hx hZ hown (Or.inr (hw _ (List.mem_of_getElem? (i := 54) rfl))) Via.refl e1015 Fc (g := (mkF m 4 #[.val (.ref a1)] [(.ref bb)])) rfl rfl (hb hby d9_4)
  refine go (T' := T1016) (g' := (mkF m 7 #[.val (.ref a1)] [(.int (Int32.ofNat n))])) st1016 ?_
  refine goRetI X1016 hx hlk Bd.returns (hb hby d9_7) ?_ (by decide) (by decide)
  rw [e1016]
  exact ⟨rfl, N0, rfl⟩
theorem d10_0 : decode prog_57_method_4_code 0 = .ok (.iload_n 1, 1) := by decide +kernel
theorem d10_1 : decode prog_57_method_4_code 1 = .ok (.ifCond .ne 8, 3) := by decide +kernel
theorem d10_4 : decode prog_57_method_4_code 4 = .ok (.aload_n 0, 1) := by decide +kernel
theorem d10_5 : decode prog_57_method_4_code 5 = .ok (.getfield 19, 3) := by decide +kernel
theorem d10_8 : decode prog_57_method_4_code 8 = .ok (.areturn, 1) := by decide +kernel
theorem d10_9 : decode prog_57_method_4_code 9 = .ok (.aload_n 0, 1) := by decide +kernel
theorem d10_10 : decode prog_57_method_4_code 10 = .ok (.getfield 30, 3) := by decide +kernel
theorem d10_13 : decode prog_57_method_4_code 13 = .ok (.getfield 44, 3) := by decide +kernel
theorem d10_16 : decode prog_57_method_4_code 16 = .ok (.bipush 9, 2) := by decide +kernel
theorem d10_18 : decode prog_57_method_4_code 18 = .ok (.imul, 1) := by decide +kernel
theorem d10_19 : decode prog_57_method_4_code 19 = .ok (.newarray .long, 2) := by decide +kernel
theorem d10_21 : decode prog_57_method_4_code 21 = .ok (.astore_n 2, 1) := by decide +kernel
theorem d10_22 : decode prog_57_method_4_code 22 = .ok (.iconst 0, 1) := by decide +kernel
theorem d10_23 : decode prog_57_method_4_code 23 = .ok (.istore_n 3, 1) := by decide +kernel
theorem d10_24 : decode prog_57_method_4_code 24 = .ok (.iload_n 3, 1) := by decide +kernel
theorem d10_25 : decode prog_57_method_4_code 25 = .ok (.aload_n 0, 1) := by decide +kernel
theorem d10_26 : decode prog_57_method_4_code 26 = .ok (.getfield 30, 3) := by decide +kernel
theorem d10_29 : decode prog_57_method_4_code 29 = .ok (.getfield 44, 3) := by decide +kernel
theorem d10_32 : decode prog_57_method_4_code 32 = .ok (.if_icmp .ge 78, 3) := by decide +kernel
theorem d10_35 : decode prog_57_method_4_code 35 = .ok (.iload_n 3, 1) := by decide +kernel
theorem d10_36 : decode prog_57_method_4_code 36 = .ok (.invokestatic 48, 3) := by decide +kernel
theorem d10_39 : decode prog_57_method_4_code 39 = .ok (.lstore 4, 2) := by decide +kernel
theorem d10_41 : decode prog_57_method_4_code 41 = .ok (.iconst 0, 1) := by decide +kernel
theorem d10_42 : decode prog_57_method_4_code 42 = .ok (.istore 6, 2) := by decide +kernel
theorem d10_44 : decode prog_57_method_4_code 44 = .ok (.iload 6, 2) := by decide +kernel
theorem d10_46 : decode prog_57_method_4_code 46 = .ok (.bipush 8, 2) := by decide +kernel
theorem d10_48 : decode prog_57_method_4_code 48 = .ok (.if_icmp .ge 45, 3) := by decide +kernel
theorem d10_51 : decode prog_57_method_4_code 51 = .ok (.aload_n 0, 1) := by decide +kernel
theorem d10_52 : decode prog_57_method_4_code 52 = .ok (.getfield 19, 3) := by decide +kernel
theorem d10_55 : decode prog_57_method_4_code 55 = .ok (.iload_n 3, 1) := by decide +kernel
theorem d10_56 : decode prog_57_method_4_code 56 = .ok (.bipush 8, 2) := by decide +kernel
theorem d10_58 : decode prog_57_method_4_code 58 = .ok (.imul, 1) := by decide +kernel
theorem d10_59 : decode prog_57_method_4_code 59 = .ok (.iload 6, 2) := by decide +kernel
theorem d10_61 : decode prog_57_method_4_code 61 = .ok (.iadd, 1) := by decide +kernel
theorem d10_62 : decode prog_57_method_4_code 62 = .ok (.laload, 1) := by decide +kernel
theorem d10_63 : decode prog_57_method_4_code 63 = .ok (.lstore 7, 2) := by decide +kernel
theorem d10_65 : decode prog_57_method_4_code 65 = .ok (.aload_n 2, 1) := by decide +kernel
theorem d10_66 : decode prog_57_method_4_code 66 = .ok (.iload_n 3, 1) := by decide +kernel
theorem d10_67 : decode prog_57_method_4_code 67 = .ok (.bipush 9, 2) := by decide +kernel
theorem d10_69 : decode prog_57_method_4_code 69 = .ok (.imul, 1) := by decide +kernel
theorem d10_70 : decode prog_57_method_4_code 70 = .ok (.iload 6, 2) := by decide +kernel
theorem d10_72 : decode prog_57_method_4_code 72 = .ok (.iadd, 1) := by decide +kernel
theorem d10_73 : decode prog_57_method_4_code 73 = .ok (.lload 7, 2) := by decide +kernel
theorem d10_75 : decode prog_57_method_4_code 75 = .ok (.lastore, 1) := by decide +kernel
theorem d10_76 : decode prog_57_method_4_code 76 = .ok (.lload 4, 2) := by decide +kernel
theorem d10_78 : decode prog_57_method_4_code 78 = .ok (.iload 6, 2) := by decide +kernel
theorem d10_80 : decode prog_57_method_4_code 80 = .ok (.lload 7, 2) := by decide +kernel
theorem d10_82 : decode prog_57_method_4_code 82 = .ok (.invokestatic 52, 3) := by decide +kernel
theorem d10_85 : decode prog_57_method_4_code 85 = .ok (.lstore 4, 2) := by decide +kernel
theorem d10_87 : decode prog_57_method_4_code 87 = .ok (.iinc 6 1, 3) := by decide +kernel
theorem d10_90 : decode prog_57_method_4_code 90 = .ok (.goto (-46), 3) := by decide +kernel
theorem d10_93 : decode prog_57_method_4_code 93 = .ok (.aload_n 2, 1) := by decide +kernel
theorem d10_94 : decode prog_57_method_4_code 94 = .ok (.iload_n 3, 1) := by decide +kernel
theorem d10_95 : decode prog_57_method_4_code 95 = .ok (.bipush 9, 2) := by decide +kernel
theorem d10_97 : decode prog_57_method_4_code 97 = .ok (.imul, 1) := by decide +kernel
theorem d10_98 : decode prog_57_method_4_code 98 = .ok (.bipush 8, 2) := by decide +kernel
theorem d10_100 : decode prog_57_method_4_code 100 = .ok (.iadd, 1) := by decide +kernel
theorem d10_101 : decode prog_57_method_4_code 101 = .ok (.lload 4, 2) := by decide +kernel
theorem d10_103 : decode prog_57_method_4_code 103 = .ok (.lastore, 1) := by decide +kernel
theorem d10_104 : decode prog_57_method_4_code 104 = .ok (.iinc 3 1, 3) := by decide +kernel
theorem d10_107 : decode prog_57_method_4_code 107 = .ok (.goto (-83), 3) := by decide +kernel
theorem d10_110 : decode prog_57_method_4_code 110 = .ok (.aload_n 2, 1) := by decide +kernel
theorem d10_111 : decode prog_57_method_4_code 111 = .ok (.areturn, 1) := by decide +kernel
theorem ef__w0 (m : MethodId) (a1 : Addr) (p1 : Int32) : entryFrame m #[(.ref a1), (.int p1)] 9 = mkF m 0 #[.val (.ref a1), .val (.int p1), .unset, .unset, .unset, .unset, .unset, .unset, .unset] [] := by first | (simp [entryFrame, mkF, argsToLocals, Value.category]; done) | rfl
def Q_w0 (Z : State) (a1 : Addr) (p1 : Int32) (bw : Addr) (bb : Addr) (n : Nat) (h0 : Heap) (n0 : Nat) (v : Option Value) (h : Heap) (L : List Loc) : Prop := ∃ b f, v = some (.ref b) ∧ Fr n0 L ∧ Keep h0 h [] ∧ Aw Z h b .long (Int32.ofNat (8 * n)) f
set_option maxRecDepth 65536 in
set_option maxHeartbeats 40000000 in
theorem rm_w0 (l : Launch) (Z : State) (a0 : Array Value) (hw : ∀ d ∈ tables_1, d.before a0 Z = true) (ws : List Jvm.Cond) (a1 : Addr) (p1 : Int32) (bw : Addr) (bb : Addr) (n : Nat) (h0 : Heap) (n0 : Nat) (Z0 : n0 ≤ h0.size) (hp : p1 = 0) (Fw : Fld Z h0 a1 "com/example/tallyward/tallyward/io/KeyFilter$Building" "words" "[J" (.ref bw)) (Vw : Aw Z h0 bw .long (Int32.ofNat (8 * n)) (fun _ => .long 0)) (Fb : Fld Z h0 a1 "com/example/tallyward/tallyward/io/KeyFilter$Building" "blocks" "Lcom/example/tallyward/tallyward/io/KeyFilter$Blocks;" (.ref bb)) (Fc : Fld Z h0 bb "com/example/tallyward/tallyward/io/KeyFilter$Blocks" "count" "I" (.int (Int32.ofNat n))) :
    MetFree l (⟨"com/example/tallyward/tallyward/io/KeyFilter$Building", "words", "(Z)[J"⟩ : MethodName) (head1 (Jvm.Cond.code (⟨"com/example/tallyward/tallyward/io/KeyFilter$Building", "words", "(Z)[J"⟩ : MethodName) prog_57_method_4_code 9 (some (.array .long)) :: ws) ({ frames := 0, cells := 0, slots := 0, locals := 0 } : Room)) (fun a U => a = #[(.ref a1), (.int p1)] ∧ Z.Warmed39 U.vm ∧ U.heap = h0) (fun _ _ _ _ _ => True) (fun _ U o U' => ∃ v L, o = .returned v ∧ Q_w0 Z a1 p1 bw bb n h0 n0 v U'.heap L ∧ FrameEnd U o U' L ({ frames := 0, cells := 0, slots := 0, locals := 0 } : Room).cells ({ frames := 0, cells := 0, slots := 0, locals := 0 } : Room).slots) := by
  refine MetFree.of_bodySF (plainFor_of_name pn_2) hisR ?_
  intro p e s m args below meth c s₁ Bd hml0 hP hK
  obtain ⟨rfl, hZ, hh⟩ := hP
  have hx := Bd.exec
  have hby := Bd.bytes
  have hlk := Bd.notSynchronized
  have hml : c.maxLocals = 9 := hml0
  have hown : s.vm.findClass "com/example/tallyward/tallyward/io/KeyFilter$Building" = some m.cls := findClass_of_methodNamed Bd.named
  have hnm := (name_of_methodNamed Bd.named Bd.method).1
  have X0 : Stand p l e ({ frames := 0, cells := 0, slots := 0, locals := 0 } : Room) s m #[(.ref a1), (.int p1)] below meth c s₁ [] 0 0 := Stand.of_body Bd
  have e0 : s₁.heap = h0 := by rw [← hh, Bd.state]; rfl
  have N0 := Fr.nil n0
  show Goes p e below s 0 0 (Q_w0 Z a1 p1 bw bb n h0 n0) s₁ (entryFrame m #[(.ref a1), (.int p1)] 9)
  refine goEq (ef__w0 m a1 p1) ?_
  refine go (T' := s₁) (g' := (mkF m 1 #[.val (.ref a1), .val (.int p1), .unset, .unset, .unset, .unset, .unset, .unset, .unset] [(.int p1)])) (fun t kt => XS.iloadN X0.here hx rfl (hb hby d10_0) rfl kt) ?_
  refine go (T' := s₁) (g' := (mkF m 4 #[.val (.ref a1), .val (.int p1), .unset, .unset, .unset, .unset, .unset, .unset, .unset] [])) (fun t kt => XS.ifNo X0.here hx rfl (hb hby d10_1) rfl ((if0 _ _).trans (teq hp).2) kt) ?_
  refine go (T' := s₁) (g' := (mkF m 5 #[.val (.ref a1), .val (.int p1), .unset, .unset, .unset, .unset, .unset, .unset, .unset] [(.ref a1)])) (fun t kt => XS.aloadN X0.here hx rfl (hb hby d10_4) rfl rfl kt) ?_
  obtain ⟨T1017, X1017, e1017, st1017⟩ := getF X0 hx hZ hown (host := "") (Or.inl (hw _ (List.mem_of_getElem? (i := 32) rfl))) Via.refl e0 Fw (g := (mkF m 5 #[.val (.ref a1), .val (.int p1), .unset, .unset, .unset, .unset, .unset, .unset, .unset] [(.ref a1)])) rfl rfl (hb hby d10_5)
  refine go (T' := T1017) (g' := (mkF m 8 #[.val (.ref a1), .val (.int p1), .unset, .unset, .unset, .unset, .unset, .unset, .unset] [(.ref bw)])) st1017 ?_
  refine goRetA X1017 hx hlk Bd.returns rfl rfl rfl (hb hby d10_8) ?_ (by decide) (by decide)
  rw [e1017]
  exact ⟨bw, _, rfl, N0, Keep.refl _ _, Vw⟩
theorem pd_4 : parseMethodDescriptor "(I)J" = some ⟨[.int], some .long⟩ := by decide +kernel
theorem tw10_39_1027 {z0 : Addr} {z1 : Int32} {z2 : Addr} {z3 : Int32} {s4 : Slot} {s5 : Slot} {s6 : Slot} {s7 : Slot} {s8 : Slot} {v : Int64} (h : Two s4 s5) : storeLocals #[.val (.ref z0), .val (.int z1), .val (.ref z2), .val (.int z3), s4, s5, s6, s7, s8] 4 (.long v) = some #[.val (.ref z0), .val (.int z1), .val (.ref z2), .val (.int z3), .val (.long v), .second, s6, s7, s8] := by
  rcases h with ⟨rfl, rfl⟩ | ⟨w, rfl, rfl⟩ <;> rfl
theorem os10_42_1028 {z0 : Value} {z1 : Value} {z2 : Value} {z3 : Value} {z4 : Value} {s6 : Slot} {s7 : Slot} {s8 : Slot} {v : Int32} (h : One s6) : storeLocals #[.val z0, .val z1, .val z2, .val z3, .val z4, .second, s6, s7, s8] 6 (.int v) = some #[.val z0, .val z1, .val z2, .val z3, .val z4, .second, .val (.int v), s7, s8] := by
  rcases h with rfl | ⟨w, rfl, hw⟩
  · rfl
  · cases w <;> first | rfl | (simp [Value.category] at hw)
theorem tw10_63_1032 {z0 : Addr} {z1 : Int32} {z2 : Addr} {z3 : Int32} {z4 : Int64} {z6 : Int32} {t7 : Slot} {t8 : Slot} {v : Int64} (h : Two t7 t8) : storeLocals #[.val (.ref z0), .val (.int z1), .val (.ref z2), .val (.int z3), .val (.long z4), .second, .val (.int z6), t7, t8] 7 (.long v) = some #[.val (.ref z0), .val (.int z1), .val (.ref z2), .val (.int z3), .val (.long z4), .second, .val (.int z6), .val (.long v), .second] := by
  rcases h with ⟨rfl, rfl⟩ | ⟨w, rfl, rfl⟩ <;> rfl
theorem pd_5 : parseMethodDescriptor "(JIJ)J" = some ⟨[.long, .int, .long], some .long⟩ := by decide +kernel
theorem ef__w1 (m : MethodId) (a1 : Addr) (p1 : Int32) : entryFrame m #[(.ref a1), (.int p1)] 9 = mkF m 0 #[.val (.ref a1), .val (.int p1), .unset, .unset, .unset, .unset, .unset, .unset, .unset] [] := by first | (simp [entryFrame, mkF, argsToLocals, Value.category]; done) | rfl
def Q_w1 (Z : State) (a1 : Addr) (p1 : Int32) (bw : Addr) (bb : Addr) (n : Nat) (h0 : Heap) (n0 : Nat) (v : Option Value) (h : Heap) (L : List Loc) : Prop := ∃ b f, v = some (.ref b) ∧ Fr n0 L ∧ Keep h0 h [] ∧ Aw Z h b .long (Int32.ofNat (9 * n)) f
set_option maxRecDepth 65536 in
set_option maxHeartbeats 40000000 in
theorem rm_w1 (l : Launch) (Z : State) (a0 : Array Value) (hw : ∀ d ∈ tables_1, d.before a0 Z = true) (ws : List Jvm.Cond) (a1 : Addr) (p1 : Int32) (bw : Addr) (bb : Addr) (n : Nat) (h0 : Heap) (n0 : Nat) (Z0 : n0 ≤ h0.size) (hp : p1 = 1) (Fw : Fld Z h0 a1 "com/example/tallyward/tallyward/io/KeyFilter$Building" "words" "[J" (.ref bw)) (Vw : Aw Z h0 bw .long (Int32.ofNat (8 * n)) (fun _ => .long 0)) (Fb : Fld Z h0 a1 "com/example/tallyward/tallyward/io/KeyFilter$Building" "blocks" "Lcom/example/tallyward/tallyward/io/KeyFilter$Blocks;" (.ref bb)) (Fc : Fld Z h0 bb "com/example/tallyward/tallyward/io/KeyFilter$Blocks" "count" "I" (.int (Int32.ofNat n))) (hn : n = 1 ∨ n = 2) :
    MetFree l (⟨"com/example/tallyward/tallyward/io/KeyFilter$Building", "words", "(Z)[J"⟩ : MethodName) (head1 (Jvm.Cond.code (⟨"com/example/tallyward/tallyward/io/KeyFilter$Building", "words", "(Z)[J"⟩ : MethodName) prog_57_method_4_code 9 (some (.array .long)) :: ws) ({ frames := 1, cells := 1, slots := 18, locals := 16 } : Room)) (fun a U => a = #[(.ref a1), (.int p1)] ∧ Z.Warmed39 U.vm ∧ U.heap = h0) (fun _ _ _ _ _ => True) (fun _ U o U' => ∃ v L, o = .returned v ∧ Q_w1 Z a1 p1 bw bb n h0 n0 v U'.heap L ∧ FrameEnd U o U' L ({ frames := 1, cells := 1, slots := 18, locals := 16 } : Room).cells ({ frames := 1, cells := 1, slots := 18, locals := 16 } : Room).slots) := by
  refine MetFree.of_bodySF (plainFor_of_name pn_2) hisR ?_
  intro p e s m args below meth c s₁ Bd hml0 hP hK
  obtain ⟨rfl, hZ, hh⟩ := hP
  have hx := Bd.exec
  have hby := Bd.bytes
  have hlk := Bd.notSynchronized
  have hml : c.maxLocals = 9 := hml0
  have hown : s.vm.findClass "com/example/tallyward/tallyward/io/KeyFilter$Building" = some m.cls := findClass_of_methodNamed Bd.named
  have hnm := (name_of_methodNamed Bd.named Bd.method).1
  have X0 : Stand p l e ({ frames := 1, cells := 1, slots := 18, locals := 16 } : Room) s m #[(.ref a1), (.int p1)] below meth c s₁ [] 0 0 := Stand.of_body Bd
  have e0 : s₁.heap = h0 := by rw [← hh, Bd.state]; rfl
  have N0 := Fr.nil n0
  show Goes p e below s 1 18 (Q_w1 Z a1 p1 bw bb n h0 n0) s₁ (entryFrame m #[(.ref a1), (.int p1)] 9)
  refine goEq (ef__w1 m a1 p1) ?_
  have hn2 : 1 ≤ n ∧ n ≤ 2 := by omega
  refine go (T' := s₁) (g' := (mkF m 1 #[.val (.ref a1), .val (.int p1), .unset, .unset, .unset, .unset, .unset, .unset, .unset] [(.int p1)])) (fun t kt => XS.iloadN X0.here hx rfl (hb hby d10_0) rfl kt) ?_
  refine go (T' := s₁) (g' := (mkF m 9 #[.val (.ref a1), .val (.int p1), .unset, .unset, .unset, .unset, .unset, .unset, .unset] [])) (fun t kt => XS.ifYes X0.here hx rfl (pc0 := 1) (pc' := 9) rfl (hb hby d10_1) rfl ((if0 _ _).trans (feq (by rw [hp]; exact own_ne10)).2) (by decide) (by decide) kt) ?_
  refine go (T' := s₁) (g' := (mkF m 10 #[.val (.ref a1), .val (.int p1), .unset, .unset, .unset, .unset, .unset, .unset, .unset] [(.ref a1)])) (fun t kt => XS.aloadN X0.here hx rfl (hb hby d10_9) rfl rfl kt) ?_
  obtain ⟨T1018, X1018, e1018, st1018⟩ := getF X0 hx hZ hown (host := "") (Or.inl (hw _ (List.mem_of_getElem? (i := 47) rfl))) Via.refl e0 Fb (g := (mkF m 10 #[.val (.ref a1), .val (.int p1), .unset, .unset, .unset, .unset, .unset, .unset, .unset] [(.ref a1)])) rfl rfl (hb hby d10_10)
  refine go (T' := T1018) (g' := (mkF m 13 #[.val (.ref a1), .val (.int p1), .unset, .unset, .unset, .unset, .unset, .unset, .unset] [(.ref bb)])) st1018 ?_
  obtain ⟨T1019, X1019, e1019, st1019⟩ := getF X1018 hx hZ hown (Or.inr (hw _ (List.mem_of_getElem? (i := 54) rfl))) Via.refl e1018 Fc (g := (mkF m 13 #[.val (.ref a1), .val (.int p1), .unset, .unset, .unset, .unset, .unset, .unset, .unset] [(.ref bb)])) rfl rfl (hb hby d10_13)
  refine go (T' := T1019) (g' := (mkF m 16 #[.val (.ref a1), .val (.int p1), .unset, .unset, .unset, .unset, .unset, .unset, .unset] [(.int (Int32.ofNat n))])) st1019 ?_
  refine go (T' := T1019) (g' := (mkF m 18 #[.val (.ref a1), .val (.int p1), .unset, .unset, .unset, .unset, .unset, .unset, .unset] [(.int (9 : Int32)), (.int (Int32.ofNat n))])) (fun t kt => XS.bipush X1019.here hx rfl (hb hby d10_16) kt) ?_
  refine go (T' := T1019) (g' := (mkF m 19 #[.val (.ref a1), .val (.int p1), .unset, .unset, .unset, .unset, .unset, .unset, .unset] [(.int ((Int32.ofNat n) * (9 : Int32)))])) (fun t kt => XS.imul X1019.here hx rfl (hb hby d10_18) rfl kt) ?_
  refine goEq (g' := (mkF m 19 #[.val (.ref a1), .val (.int p1), .unset, .unset, .unset, .unset, .unset, .unset, .unset] [(.int (Int32.ofNat (9 * n)))])) (by rw [show Int32.ofNat n * (9 : Int32) = Int32.ofNat (n * 9) from nn_mul n 9, Nat.mul_comm n 9]) ?_
  obtain ⟨T1020, h1020, kc1020, X1020, e1020, E1020, A1020, st1020⟩ := newP X1019 hx hZ (hw _ (List.mem_of_getElem? (i := 31) rfl)) e1019 (g := (mkF m 19 #[.val (.ref a1), .val (.int p1), .unset, .unset, .unset, .unset, .unset, .unset, .unset] [(.int (Int32.ofNat (9 * n)))])) rfl (hb hby d10_19) rfl (nn_neg (by omega)) (cap := 18) (by rw [nn_nat (by omega)]; omega) (by decide) (by decide) (by decide)
  obtain ⟨bt, g1020⟩ : ∃ z, z = h0.size := ⟨_, rfl⟩
  rw [← g1020] at A1020 st1020
  have ne_a1_bt : a1 ≠ bt := Nat.ne_of_lt (Nat.lt_of_lt_of_le Fw.lt (Nat.le_of_eq g1020.symm))
  have ne_bb_bt : bb ≠ bt := Nat.ne_of_lt (Nat.lt_of_lt_of_le Fc.lt (Nat.le_of_eq g1020.symm))
  have ne_bw_bt : bw ≠ bt := Nat.ne_of_lt (Nat.lt_of_lt_of_le Vw.lt (Nat.le_of_eq g1020.symm))
  have g_bt : n0 ≤ bt := Nat.le_trans Z0 (Nat.le_of_eq g1020.symm)
  have o_bt : h0.size ≤ bt := Nat.le_trans (Keep.refl h0 []).1 (Nat.le_of_eq g1020.symm)
  have z1020 : n0 ≤ h1020.size := Nat.le_trans Z0 E1020.1
  have fF_a1_words_1020 : Fld Z h1020 a1 "com/example/tallyward/tallyward/io/KeyFilter$Building" "words" "[J" (.ref bw) := Fw.ext E1020
  have fF_a1_blocks_1020 : Fld Z h1020 a1 "com/example/tallyward/tallyward/io/KeyFilter$Building" "blocks" "Lcom/example/tallyward/tallyward/io/KeyFilter$Blocks;" (.ref bb) := Fb.ext E1020
  have fF_bb_count_1020 : Fld Z h1020 bb "com/example/tallyward/tallyward/io/KeyFilter$Blocks" "count" "I" (.int (Int32.ofNat n)) := Fc.ext E1020
  have fA_bw_1020 : Aw Z h1020 bw .long (Int32.ofNat (8 * n)) (fun _ => .long 0) := Vw.ext E1020
  have K1020 : Keep h0 h1020 [] := (Keep.refl h0 []).ext E1020
  have V_bt : Aw Z h1020 bt .long (Int32.ofNat (9 * n)) (fun _ => defaultValue .long) := Aw.new A1020 (nn_neg (by omega))
  refine go (T' := T1020) (g' := (mkF m 21 #[.val (.ref a1), .val (.int p1), .unset, .unset, .unset, .unset, .unset, .unset, .unset] [(.ref bt)])) st1020 ?_
  refine go (T' := T1020) (g' := (mkF m 22 #[.val (.ref a1), .val (.int p1), .val (.ref bt), .unset, .unset, .unset, .unset, .unset, .unset] [])) (fun t kt => XS.astoreN X1020.here hx rfl (hb hby d10_21) rfl rfl (l' := #[.val (.ref a1), .val (.int p1), .val (.ref bt), .unset, .unset, .unset, .unset, .unset, .unset]) rfl kt) ?_
  refine go (T' := T1020) (g' := (mkF m 23 #[.val (.ref a1), .val (.int p1), .val (.ref bt), .unset, .unset, .unset, .unset, .unset, .unset] [(.int (0 : Int32))])) (fun t kt => XS.iconst X1020.here hx rfl (hb hby d10_22) kt) ?_
  refine go (T' := T1020) (g' := (mkF m 24 #[.val (.ref a1), .val (.int p1), .val (.ref bt), .val (.int (0 : Int32)), .unset, .unset, .unset, .unset, .unset] [])) (fun t kt => XS.istoreN X1020.here hx rfl (hb hby d10_23) rfl (l' := #[.val (.ref a1), .val (.int p1), .val (.ref bt), .val (.int (0 : Int32)), .unset, .unset, .unset, .unset, .unset]) rfl kt) ?_
  have outer : ∀ (k : Nat) (Tj1021 : State) (Lj1021 : List Loc) (hj1021 : Heap) (i : Nat) (s4 s5 s6 s7 s8 : Slot) (fo : Nat → Value), Stand p l e ({ frames := 1, cells := 1, slots := 18, locals := 16 } : Room) s m #[(.ref a1), (.int p1)] below meth c Tj1021 Lj1021 1 18 → Tj1021.heap = hj1021 → Fr n0 Lj1021 → n0 ≤ hj1021.size → Keep h0 hj1021 [] → Fld Z hj1021 a1 "com/example/tallyward/tallyward/io/KeyFilter$Building" "words" "[J" (.ref bw) → Fld Z hj1021 a1 "com/example/tallyward/tallyward/io/KeyFilter$Building" "blocks" "Lcom/example/tallyward/tallyward/io/KeyFilter$Blocks;" (.ref bb) → Fld Z hj1021 bb "com/example/tallyward/tallyward/io/KeyFilter$Blocks" "count" "I" (.int (Int32.ofNat n)) → Aw Z hj1021 bw .long (Int32.ofNat (8 * n)) (fun _ => .long 0) → Aw Z hj1021 bt .long (Int32.ofNat (9 * n)) fo → (Two s4 s5) → (One s6) → (Two s7 s8) → (i + k = n) → Goes p e below s 1 18 (Q_w1 Z a1 p1 bw bb n h0 n0) Tj1021 (mkF m 24 #[.val (.ref a1), .val (.int p1), .val (.ref bt), .val (.int (Int32.ofNat i)), s4, s5, s6, s7, s8] []) := by
    intro k
    induction k with
    | zero =>
      intro Tj1021 Lj1021 hj1021 i s4 s5 s6 s7 s8 fo Xj1021 ej1021 Nj1021 zj1021 Kj1021 fj1021_0 fj1021_1 fj1021_2 fj1021_3 fj1021_4 hs4 hs6 hs7 hik
      rw [Nat.add_zero] at hik
      refine go (T' := Tj1021) (g' := (mkF m 25 #[.val (.ref a1), .val (.int p1), .val (.ref bt), .val (.int (Int32.ofNat i)), s4, s5, s6, s7, s8] [(.int (Int32.ofNat i))])) (fun t kt => XS.iloadN Xj1021.here hx rfl (hb hby d10_24) rfl kt) ?_
      refine go (T' := Tj1021) (g' := (mkF m 26 #[.val (.ref a1), .val (.int p1), .val (.ref bt), .val (.int (Int32.ofNat i)), s4, s5, s6, s7, s8] [(.ref a1), (.int (Int32.ofNat i))])) (fun t kt => XS.aloadN Xj1021.here hx rfl (hb hby d10_25) rfl rfl kt) ?_
      obtain ⟨T1022, X1022, e1022, st1022⟩ := getF Xj1021 hx hZ hown (host := "") (Or.inl (hw _ (List.mem_of_getElem? (i := 47) rfl))) Via.refl ej1021 fj1021_1 (g := (mkF m 26 #[.val (.ref a1), .val (.int p1), .val (.ref bt), .val (.int (Int32.ofNat i)), s4, s5, s6, s7, s8] [(.ref a1), (.int (Int32.ofNat i))])) rfl rfl (hb hby d10_26)
      refine go (T' := T1022) (g' := (mkF m 29 #[.val (.ref a1), .val (.int p1), .val (.ref bt), .val (.int (Int32.ofNat i)), s4, s5, s6, s7, s8] [(.ref bb), (.int (Int32.ofNat i))])) st1022 ?_
      obtain ⟨T1023, X1023, e1023, st1023⟩ := getF X1022 hx hZ hown (Or.inr (hw _ (List.mem_of_getElem? (i := 54) rfl))) Via.refl e1022 fj1021_2 (g := (mkF m 29 #[.val (.ref a1), .val (.int p1), .val (.ref bt), .val (.int (Int32.ofNat i)), s4, s5, s6, s7, s8] [(.ref bb), (.int (Int32.ofNat i))])) rfl rfl (hb hby d10_29)
      refine go (T' := T1023) (g' := (mkF m 32 #[.val (.ref a1), .val (.int p1), .val (.ref bt), .val (.int (Int32.ofNat i)), s4, s5, s6, s7, s8] [(.int (Int32.ofNat n)), (.int (Int32.ofNat i))])) st1023 ?_
      refine go (T' := T1023) (g' := (mkF m 110 #[.val (.ref a1), .val (.int p1), .val (.ref bt), .val (.int (Int32.ofNat i)), s4, s5, s6, s7, s8] [])) (fun t kt => XS.icmpYes X1023.here hx rfl (pc0 := 32) (pc' := 110) rfl (hb hby d10_32) rfl (flt (fun z => by have := (nn_lt (by omega) (by omega)).mp z; omega)).2.1 (by decide) (by decide) kt) ?_
      refine go (T' := T1023) (g' := (mkF m 111 #[.val (.ref a1), .val (.int p1), .val (.ref bt), .val (.int (Int32.ofNat i)), s4, s5, s6, s7, s8] [(.ref bt)])) (fun t kt => XS.aloadN X1023.here hx rfl (hb hby d10_110) rfl rfl kt) ?_
      refine goRetA X1023 hx hlk Bd.returns rfl rfl rfl (hb hby d10_111) ?_ (by decide) (by decide)
      rw [e1023]
      exact ⟨bt, _, rfl, Nj1021, Kj1021, fj1021_4⟩
    | succ k ih_outer =>
      intro Tj1021 Lj1021 hj1021 i s4 s5 s6 s7 s8 fo Xj1021 ej1021 Nj1021 zj1021 Kj1021 fj1021_0 fj1021_1 fj1021_2 fj1021_3 fj1021_4 hs4 hs6 hs7 hik
      refine go (T' := Tj1021) (g' := (mkF m 25 #[.val (.ref a1), .val (.int p1), .val (.ref bt), .val (.int (Int32.ofNat i)), s4, s5, s6, s7, s8] [(.int (Int32.ofNat i))])) (fun t kt => XS.iloadN Xj1021.here hx rfl (hb hby d10_24) rfl kt) ?_
      refine go (T' := Tj1021) (g' := (mkF m 26 #[.val (.ref a1), .val (.int p1), .val (.ref bt), .val (.int (Int32.ofNat i)), s4, s5, s6, s7, s8] [(.ref a1), (.int (Int32.ofNat i))])) (fun t kt => XS.aloadN Xj1021.here hx rfl (hb hby d10_25) rfl rfl kt) ?_
      obtain ⟨T1024, X1024, e1024, st1024⟩ := getF Xj1021 hx hZ hown (host := "") (Or.inl (hw _ (List.mem_of_getElem? (i := 47) rfl))) Via.refl ej1021 fj1021_1 (g := (mkF m 26 #[.val (.ref a1), .val (.int p1), .val (.ref bt), .val (.int (Int32.ofNat i)), s4, s5, s6, s7, s8] [(.ref a1), (.int (Int32.ofNat i))])) rfl rfl (hb hby d10_26)
      refine go (T' := T1024) (g' := (mkF m 29 #[.val (.ref a1), .val (.int p1), .val (.ref bt), .val (.int (Int32.ofNat i)), s4, s5, s6, s7, s8] [(.ref bb), (.int (Int32.ofNat i))])) st1024 ?_
      obtain ⟨T1025, X1025, e1025, st1025⟩ := getF X1024 hx hZ hown (Or.inr (hw _ (List.mem_of_getElem? (i := 54) rfl))) Via.refl e1024 fj1021_2 (g := (mkF m 29 #[.val (.ref a1), .val (.int p1), .val (.ref bt), .val (.int (Int32.ofNat i)), s4, s5, s6, s7, s8] [(.ref bb), (.int (Int32.ofNat i))])) rfl rfl (hb hby d10_29)
      refine go (T' := T1025) (g' := (mkF m 32 #[.val (.ref a1), .val (.int p1), .val (.ref bt), .val (.int (Int32.ofNat i)), s4, s5, s6, s7, s8] [(.int (Int32.ofNat n)), (.int (Int32.ofNat i))])) st1025 ?_
      refine go (T' := T1025) (g' := (mkF m 35 #[.val (.ref a1), .val (.int p1), .val (.ref bt), .val (.int (Int32.ofNat i)), s4, s5, s6, s7, s8] [])) (fun t kt => XS.icmpNo X1025.here hx rfl (hb hby d10_32) rfl (tlt ((nn_lt (by omega) (by omega)).mpr (by omega))).2.1 kt) ?_
      refine go (T' := T1025) (g' := (mkF m 36 #[.val (.ref a1), .val (.int p1), .val (.ref bt), .val (.int (Int32.ofNat i)), s4, s5, s6, s7, s8] [(.int (Int32.ofNat i))])) (fun t kt => XS.iloadN X1025.here hx rfl (hb hby d10_35) rfl kt) ?_
      obtain ⟨_, _, ⟨T1026, L1026, k1026, n1026⟩, -, X1026, ⟨Lc1026, hQ1026, l1026, y1026, z1026⟩, st1026⟩ := callSN X1025 hx (y := (⟨"com/example/tallyward/tallyward/io/KeyFilter", "emptyCheck", "(I)J"⟩ : MethodName)) hown (mvN' hZ (hw _ (List.mem_of_getElem? (i := 60) rfl))) (mvT hZ (hw _ (List.mem_of_getElem? (i := 61) rfl))) (mvT hZ (hw _ (List.mem_of_getElem? (i := 4) rfl))) (mvT hZ (hw _ (List.mem_of_getElem? (i := 62) rfl))) (by decide) (backOf (W := 0) (rm11 l Z a0 hw [] (Int32.ofNat i) hj1021 n0 zj1021) hZ (hw _ (List.mem_of_getElem? (i := 62) rfl)) (hw _ (List.mem_of_getElem? (i := 4) rfl)) (by decide) (by decide)) (g := (mkF m 36 #[.val (.ref a1), .val (.int p1), .val (.ref bt), .val (.int (Int32.ofNat i)), s4, s5, s6, s7, s8] [(.int (Int32.ofNat i))])) rfl (by rw [hml]; rfl) (argsL := [(.int (Int32.ofNat i))]) (rest := []) (lenOf pd_4 rfl) rfl (by show 2 * 0 + _ ≤ _; exact Nat.le_of_eq rfl) (hb hby d10_36) (fun _ _ => ⟨rfl, e1025, (by decide : 1 + 0 ≤ _), (by decide : 18 + 0 ≤ _)⟩)
      dsimp only [Pt.U, Pt.locs, Pt.cells, Pt.slots] at X1026 l1026 y1026 z1026 st1026 hQ1026
      subst l1026 y1026 z1026
      obtain ⟨xe, rfl, N1026q, e1026⟩ := hQ1026
      have N1026 := Fr.app Nj1021 N1026q
      refine goV (T' := T1026) (g' := (mkF m 39 #[.val (.ref a1), .val (.int p1), .val (.ref bt), .val (.int (Int32.ofNat i)), s4, s5, s6, s7, s8] [(.long xe)])) st1026 ?_
      refine go (T' := T1026) (g' := (mkF m 41 #[.val (.ref a1), .val (.int p1), .val (.ref bt), .val (.int (Int32.ofNat i)), .val (.long xe), .second, s6, s7, s8] [])) (fun t kt => XS.lstore X1026.here hx rfl (hb hby d10_39) rfl (l' := #[.val (.ref a1), .val (.int p1), .val (.ref bt), .val (.int (Int32.ofNat i)), .val (.long xe), .second, s6, s7, s8]) (tw10_39_1027 hs4) kt) ?_
      refine go (T' := T1026) (g' := (mkF m 42 #[.val (.ref a1), .val (.int p1), .val (.ref bt), .val (.int (Int32.ofNat i)), .val (.long xe), .second, s6, s7, s8] [(.int (0 : Int32))])) (fun t kt => XS.iconst X1026.here hx rfl (hb hby d10_41) kt) ?_
      refine go (T' := T1026) (g' := (mkF m 44 #[.val (.ref a1), .val (.int p1), .val (.ref bt), .val (.int (Int32.ofNat i)), .val (.long xe), .second, .val (.int (0 : Int32)), s7, s8] [])) (fun t kt => XS.istore X1026.here hx rfl (hb hby d10_42) rfl (l' := #[.val (.ref a1), .val (.int p1), .val (.ref bt), .val (.int (Int32.ofNat i)), .val (.long xe), .second, .val (.int (0 : Int32)), s7, s8]) (os10_42_1028 hs6) kt) ?_
      have inner : ∀ (q : Nat) (Tj1029 : State) (Lj1029 : List Loc) (hj1029 : Heap) (j : Nat) (ck : Int64) (t7 t8 : Slot) (fi : Nat → Value), Stand p l e ({ frames := 1, cells := 1, slots := 18, locals := 16 } : Room) s m #[(.ref a1), (.int p1)] below meth c Tj1029 Lj1029 1 18 → Tj1029.heap = hj1029 → Fr n0 Lj1029 → n0 ≤ hj1029.size → Keep h0 hj1029 [] → Fld Z hj1029 a1 "com/example/tallyward/tallyward/io/KeyFilter$Building" "words" "[J" (.ref bw) → Fld Z hj1029 a1 "com/example/tallyward/tallyward/io/KeyFilter$Building" "blocks" "Lcom/example/tallyward/tallyward/io/KeyFilter$Blocks;" (.ref bb) → Fld Z hj1029 bb "com/example/tallyward/tallyward/io/KeyFilter$Blocks" "count" "I" (.int (Int32.ofNat n)) → Aw Z hj1029 bw .long (Int32.ofNat (8 * n)) (fun _ => .long 0) → Aw Z hj1029 bt .long (Int32.ofNat (9 * n)) fi → (Two t7 t8) → (j + q = 8) → Goes p e below s 1 18 (Q_w1 Z a1 p1 bw bb n h0 n0) Tj1029 (mkF m 44 #[.val (.ref a1), .val (.int p1), .val (.ref bt), .val (.int (Int32.ofNat i)), .val (.long ck), .second, .val (.int (Int32.ofNat j)), t7, t8] []) := by
        intro q
        induction q with
        | zero =>
          intro Tj1029 Lj1029 hj1029 j ck t7 t8 fi Xj1029 ej1029 Nj1029 zj1029 Kj1029 fj1029_0 fj1029_1 fj1029_2 fj1029_3 fj1029_4 ht7 hjk
          rw [Nat.add_zero] at hjk
          refine go (T' := Tj1029) (g' := (mkF m 46 #[.val (.ref a1), .val (.int p1), .val (.ref bt), .val (.int (Int32.ofNat i)), .val (.long ck), .second, .val (.int (Int32.ofNat j)), t7, t8] [(.int (Int32.ofNat j))])) (fun t kt => XS.iload Xj1029.here hx rfl (hb hby d10_44) rfl kt) ?_
          refine go (T' := Tj1029) (g' := (mkF m 48 #[.val (.ref a1), .val (.int p1), .val (.ref bt), .val (.int (Int32.ofNat i)), .val (.long ck), .second, .val (.int (Int32.ofNat j)), t7, t8] [(.int (8 : Int32)), (.int (Int32.ofNat j))])) (fun t kt => XS.bipush Xj1029.here hx rfl (hb hby d10_46) kt) ?_
          refine go (T' := Tj1029) (g' := (mkF m 93 #[.val (.ref a1), .val (.int p1), .val (.ref bt), .val (.int (Int32.ofNat i)), .val (.long ck), .second, .val (.int (Int32.ofNat j)), t7, t8] [])) (fun t kt => XS.icmpYes Xj1029.here hx rfl (pc0 := 48) (pc' := 93) rfl (hb hby d10_48) rfl (flt (fun z => by have := (nn_lt (j := 8) (by omega) (by omega)).mp z; omega)).2.1 (by decide) (by decide) kt) ?_
          refine go (T' := Tj1029) (g' := (mkF m 94 #[.val (.ref a1), .val (.int p1), .val (.ref bt), .val (.int (Int32.ofNat i)), .val (.long ck), .second, .val (.int (Int32.ofNat j)), t7, t8] [(.ref bt)])) (fun t kt => XS.aloadN Xj1029.here hx rfl (hb hby d10_93) rfl rfl kt) ?_
          refine go (T' := Tj1029) (g' := (mkF m 95 #[.val (.ref a1), .val (.int p1), .val (.ref bt), .val (.int (Int32.ofNat i)), .val (.long ck), .second, .val (.int (Int32.ofNat j)), t7, t8] [(.int (Int32.ofNat i)), (.ref bt)])) (fun t kt => XS.iloadN Xj1029.here hx rfl (hb hby d10_94) rfl kt) ?_
          refine go (T' := Tj1029) (g' := (mkF m 97 #[.val (.ref a1), .val (.int p1), .val (.ref bt), .val (.int (Int32.ofNat i)), .val (.long ck), .second, .val (.int (Int32.ofNat j)), t7, t8] [(.int (9 : Int32)), (.int (Int32.ofNat i)), (.ref bt)])) (fun t kt => XS.bipush Xj1029.here hx rfl (hb hby d10_95) kt) ?_
          refine go (T' := Tj1029) (g' := (mkF m 98 #[.val (.ref a1), .val (.int p1), .val (.ref bt), .val (.int (Int32.ofNat i)), .val (.long ck), .second, .val (.int (Int32.ofNat j)), t7, t8] [(.int ((Int32.ofNat i) * (9 : Int32))), (.ref bt)])) (fun t kt => XS.imul Xj1029.here hx rfl (hb hby d10_97) rfl kt) ?_
          refine go (T' := Tj1029) (g' := (mkF m 100 #[.val (.ref a1), .val (.int p1), .val (.ref bt), .val (.int (Int32.ofNat i)), .val (.long ck), .second, .val (.int (Int32.ofNat j)), t7, t8] [(.int (8 : Int32)), (.int ((Int32.ofNat i) * (9 : Int32))), (.ref bt)])) (fun t kt => XS.bipush Xj1029.here hx rfl (hb hby d10_98) kt) ?_
          refine go (T' := Tj1029) (g' := (mkF m 101 #[.val (.ref a1), .val (.int p1), .val (.ref bt), .val (.int (Int32.ofNat i)), .val (.long ck), .second, .val (.int (Int32.ofNat j)), t7, t8] [(.int (((Int32.ofNat i) * (9 : Int32)) + (8 : Int32))), (.ref bt)])) (fun t kt => XS.iadd Xj1029.here hx rfl (hb hby d10_100) rfl kt) ?_
          refine goEq (g' := (mkF m 101 #[.val (.ref a1), .val (.int p1), .val (.ref bt), .val (.int (Int32.ofNat i)), .val (.long ck), .second, .val (.int (Int32.ofNat j)), t7, t8] [(.int (Int32.ofNat (i * 9 + 8))), (.ref bt)])) (by rw [show Int32.ofNat i * (9 : Int32) = Int32.ofNat (i * 9) from nn_mul i 9, show Int32.ofNat (i * 9) + (8 : Int32) = Int32.ofNat (i * 9 + 8) from nn_add (i * 9) 8]) ?_
          refine go (T' := Tj1029) (g' := (mkF m 103 #[.val (.ref a1), .val (.int p1), .val (.ref bt), .val (.int (Int32.ofNat i)), .val (.long ck), .second, .val (.int (Int32.ofNat j)), t7, t8] [(.long ck), (.int (Int32.ofNat (i * 9 + 8))), (.ref bt)])) (fun t kt => XS.lload Xj1029.here hx rfl (hb hby d10_101) rfl kt) ?_
          obtain ⟨T1030, h1030, X1030, e1030, W1030, V1030, st1030⟩ := own_stJ Xj1029 hx hZ ej1029 fj1029_4 (j := (Int32.ofNat (i * 9 + 8))) ⟨nn_neg (by omega), (nn_lt (by omega) (by omega)).mpr (by omega)⟩ (g := (mkF m 103 #[.val (.ref a1), .val (.int p1), .val (.ref bt), .val (.int (Int32.ofNat i)), .val (.long ck), .second, .val (.int (Int32.ofNat j)), t7, t8] [(.long ck), (.int (Int32.ofNat (i * 9 + 8))), (.ref bt)])) rfl rfl (hb hby d10_103)
          have z1030 : n0 ≤ h1030.size := Nat.le_trans zj1029 (Keep.of_wr W1030).1
          have fF_a1_words_1030 : Fld Z h1030 a1 "com/example/tallyward/tallyward/io/KeyFilter$Building" "words" "[J" (.ref bw) := fj1029_0.other W1030 (Or.inl ne_a1_bt)
          have fF_a1_blocks_1030 : Fld Z h1030 a1 "com/example/tallyward/tallyward/io/KeyFilter$Building" "blocks" "Lcom/example/tallyward/tallyward/io/KeyFilter$Blocks;" (.ref bb) := fj1029_1.other W1030 (Or.inl ne_a1_bt)
          have fF_bb_count_1030 : Fld Z h1030 bb "com/example/tallyward/tallyward/io/KeyFilter$Blocks" "count" "I" (.int (Int32.ofNat n)) := fj1029_2.other W1030 (Or.inl ne_bb_bt)
          have fA_bw_1030 : Aw Z h1030 bw .long (Int32.ofNat (8 * n)) (fun _ => .long 0) := fj1029_3.other W1030 ne_bw_bt
          have K1030 : Keep h0 h1030 [] := Kj1029.wr W1030 (Or.inr o_bt)
          have N1030 := Fr.snoc X1030 Nj1029 g_bt
          refine go (T' := T1030) (g' := (mkF m 104 #[.val (.ref a1), .val (.int p1), .val (.ref bt), .val (.int (Int32.ofNat i)), .val (.long ck), .second, .val (.int (Int32.ofNat j)), t7, t8] [])) st1030 ?_
          refine go (T' := T1030) (g' := (mkF m 107 #[.val (.ref a1), .val (.int p1), .val (.ref bt), .val (.int ((Int32.ofNat i) + (1 : Int32))), .val (.long ck), .second, .val (.int (Int32.ofNat j)), t7, t8] [])) (fun t kt => XS.iinc X1030.here hx rfl (hb hby d10_104) rfl (l' := #[.val (.ref a1), .val (.int p1), .val (.ref bt), .val (.int ((Int32.ofNat i) + (1 : Int32))), .val (.long ck), .second, .val (.int (Int32.ofNat j)), t7, t8]) rfl kt) ?_
          refine goEq (g' := (mkF m 107 #[.val (.ref a1), .val (.int p1), .val (.ref bt), .val (.int (Int32.ofNat (i + 1))), .val (.long ck), .second, .val (.int (Int32.ofNat j)), t7, t8] [])) (by rw [show Int32.ofNat i + (1 : Int32) = Int32.ofNat (i + 1) from nn_add i 1]) ?_
          refine go (T' := T1030) (g' := (mkF m 24 #[.val (.ref a1), .val (.int p1), .val (.ref bt), .val (.int (Int32.ofNat (i + 1))), .val (.long ck), .second, .val (.int (Int32.ofNat j)), t7, t8] [])) (fun t kt => XS.goto X1030.here hx rfl (pc0 := 107) (pc' := 24) rfl (hb hby d10_107) (by decide) (by decide) kt) ?_
          exact ih_outer _ _ _ (i + 1) _ _ _ _ _ _ (X1030.more (by decide) (by decide)) e1030 N1030 z1030 K1030 fF_a1_words_1030 fF_a1_blocks_1030 fF_bb_count_1030 fA_bw_1030 V1030 Two.val (One.val rfl) ht7 (by omega)
        | succ q ih_inner =>
          intro Tj1029 Lj1029 hj1029 j ck t7 t8 fi Xj1029 ej1029 Nj1029 zj1029 Kj1029 fj1029_0 fj1029_1 fj1029_2 fj1029_3 fj1029_4 ht7 hjk
          refine go (T' := Tj1029) (g' := (mkF m 46 #[.val (.ref a1), .val (.int p1), .val (.ref bt), .val (.int (Int32.ofNat i)), .val (.long ck), .second, .val (.int (Int32.ofNat j)), t7, t8] [(.int (Int32.ofNat j))])) (fun t kt => XS.iload Xj1029.here hx rfl (hb hby d10_44) rfl kt) ?_
          refine go (T' := Tj1029) (g' := (mkF m 48 #[.val (.ref a1), .val (.int p1), .val (.ref bt), .val (.int (Int32.ofNat i)), .val (.long ck), .second, .val (.int (Int32.ofNat j)), t7, t8] [(.int (8 : Int32)), (.int (Int32.ofNat j))])) (fun t kt => XS.bipush Xj1029.here hx rfl (hb hby d10_46) kt) ?_
          refine go (T' := Tj1029) (g' := (mkF m 51 #[.val (.ref a1), .val (.int p1), .val (.ref bt), .val (.int (Int32.ofNat i)), .val (.long ck), .second, .val (.int (Int32.ofNat j)), t7, t8] [])) (fun t kt => XS.icmpNo Xj1029.here hx rfl (hb hby d10_48) rfl (tlt ((nn_lt (j := 8) (by omega) (by omega)).mpr (by omega))).2.1 kt) ?_
          refine go (T' := Tj1029) (g' := (mkF m 52 #[.val (.ref a1), .val (.int p1), .val (.ref bt), .val (.int (Int32.ofNat i)), .val (.long ck), .second, .val (.int (Int32.ofNat j)), t7, t8] [(.ref a1)])) (fun t kt => XS.aloadN Xj1029.here hx rfl (hb hby d10_51) rfl rfl kt) ?_
          obtain ⟨T1031, X1031, e1031, st1031⟩ := getF Xj1029 hx hZ hown (host := "") (Or.inl (hw _ (List.mem_of_getElem? (i := 32) rfl))) Via.refl ej1029 fj1029_0 (g := (mkF m 52 #[.val (.ref a1), .val (.int p1), .val (.ref bt), .val (.int (Int32.ofNat i)), .val (.long ck), .second, .val (.int (Int32.ofNat j)), t7, t8] [(.ref a1)])) rfl rfl (hb hby d10_52)
          refine go (T' := T1031) (g' := (mkF m 55 #[.val (.ref a1), .val (.int p1), .val (.ref bt), .val (.int (Int32.ofNat i)), .val (.long ck), .second, .val (.int (Int32.ofNat j)), t7, t8] [(.ref bw)])) st1031 ?_
          refine go (T' := T1031) (g' := (mkF m 56 #[.val (.ref a1), .val (.int p1), .val (.ref bt), .val (.int (Int32.ofNat i)), .val (.long ck), .second, .val (.int (Int32.ofNat j)), t7, t8] [(.int (Int32.ofNat i)), (.ref bw)])) (fun t kt => XS.iloadN X1031.here hx rfl (hb hby d10_55) rfl kt) ?_
          refine go (T' := T1031) (g' := (mkF m 58 #[.val (.ref a1), .val (.int p1), .val (.ref bt), .val (.int (Int32.ofNat i)), .val (.long ck), .second, .val (.int (Int32.ofNat j)), t7, t8] [(.int (8 : Int32)), (.int (Int32.ofNat i)), (.ref bw)])) (fun t kt => XS.bipush X1031.here hx rfl (hb hby d10_56) kt) ?_
          refine go (T' := T1031) (g' := (mkF m 59 #[.val (.ref a1), .val (.int p1), .val (.ref bt), .val (.int (Int32.ofNat i)), .val (.long ck), .second, .val (.int (Int32.ofNat j)), t7, t8] [(.int ((Int32.ofNat i) * (8 : Int32))), (.ref bw)])) (fun t kt => XS.imul X1031.here hx rfl (hb hby d10_58) rfl kt) ?_
          refine go (T' := T1031) (g' := (mkF m 61 #[.val (.ref a1), .val (.int p1), .val (.ref bt), .val (.int (Int32.ofNat i)), .val (.long ck), .second, .val (.int (Int32.ofNat j)), t7, t8] [(.int (Int32.ofNat j)), (.int ((Int32.ofNat i) * (8 : Int32))), (.ref bw)])) (fun t kt => XS.iload X1031.here hx rfl (hb hby d10_59) rfl kt) ?_
          refine go (T' := T1031) (g' := (mkF m 62 #[.val (.ref a1), .val (.int p1), .val (.ref bt), .val (.int (Int32.ofNat i)), .val (.long ck), .second, .val (.int (Int32.ofNat j)), t7, t8] [(.int (((Int32.ofNat i) * (8 : Int32)) + (Int32.ofNat j))), (.ref bw)])) (fun t kt => XS.iadd X1031.here hx rfl (hb hby d10_61) rfl kt) ?_
          refine goEq (g' := (mkF m 62 #[.val (.ref a1), .val (.int p1), .val (.ref bt), .val (.int (Int32.ofNat i)), .val (.long ck), .second, .val (.int (Int32.ofNat j)), t7, t8] [(.int (Int32.ofNat (i * 8 + j))), (.ref bw)])) (by rw [show Int32.ofNat i * (8 : Int32) = Int32.ofNat (i * 8) from nn_mul i 8, nn_add]) ?_
          refine go (T' := T1031) (g' := (mkF m 63 #[.val (.ref a1), .val (.int p1), .val (.ref bt), .val (.int (Int32.ofNat i)), .val (.long ck), .second, .val (.int (Int32.ofNat j)), t7, t8] [(.long (0 : Int64))])) (fun t kt => own_ldJ X1031 hx hZ e1031 fj1029_3 (j := (Int32.ofNat (i * 8 + j))) ⟨nn_neg (by omega), (nn_lt (by omega) (by omega)).mpr (by omega)⟩ (v := (.long (0 : Int64))) rfl (g := (mkF m 62 #[.val (.ref a1), .val (.int p1), .val (.ref bt), .val (.int (Int32.ofNat i)), .val (.long ck), .second, .val (.int (Int32.ofNat j)), t7, t8] [(.int (Int32.ofNat (i * 8 + j))), (.ref bw)])) rfl rfl (hb hby d10_62) _ kt) ?_
          refine go (T' := T1031) (g' := (mkF m 65 #[.val (.ref a1), .val (.int p1), .val (.ref bt), .val (.int (Int32.ofNat i)), .val (.long ck), .second, .val (.int (Int32.ofNat j)), .val (.long (0 : Int64)), .second] [])) (fun t kt => XS.lstore X1031.here hx rfl (hb hby d10_63) rfl (l' := #[.val (.ref a1), .val (.int p1), .val (.ref bt), .val (.int (Int32.ofNat i)), .val (.long ck), .second, .val (.int (Int32.ofNat j)), .val (.long (0 : Int64)), .second]) (tw10_63_1032 ht7) kt) ?_
          refine go (T' := T1031) (g' := (mkF m 66 #[.val (.ref a1), .val (.int p1), .val (.ref bt), .val (.int (Int32.ofNat i)), .val (.long ck), .second, .val (.int (Int32.ofNat j)), .val (.long (0 : Int64)), .second] [(.ref bt)])) (fun t kt => XS.aloadN X1031.here hx rfl (hb hby d10_65) rfl rfl kt) ?_
          refine go (T' := T1031) (g' := (mkF m 67 #[.val (.ref a1), .val (.int p1), .val (.ref bt), .val (.int (Int32.ofNat i)), .val (.long ck), .second, .val (.int (Int32.ofNat j)), .val (.long (0 : Int64)), .second] [(.int (Int32.ofNat i)), (.ref bt)])) (fun t kt => XS.iloadN X1031.here hx rfl (hb hby d10_66) rfl kt) ?_
          refine go (T' := T1031) (g' := (mkF m 69 #[.val (.ref a1), .val (.int p1), .val (.ref bt), .val (.int (Int32.ofNat i)), .val (.long ck), .second, .val (.int (Int32.ofNat j)), .val (.long (0 : Int64)), .second] [(.int (9 : Int32)), (.int (Int32.ofNat i)), (.ref bt)])) (fun t kt => XS.bipush X1031.here hx rfl (hb hby d10_67) kt) ?_
          refine go (T' := T1031) (g' := (mkF m 70 #[.val (.ref a1), .val (.int p1), .val (.ref bt), .val (.int (Int32.ofNat i)), .val (.long ck), .second, .val (.int (Int32.ofNat j)), .val (.long (0 : Int64)), .second] [(.int ((Int32.ofNat i) * (9 : Int32))), (.ref bt)])) (fun t kt => XS.imul X1031.here hx rfl (hb hby d10_69) rfl kt) ?_
          refine go (T' := T1031) (g' := (mkF m 72 #[.val (.ref a1), .val (.int p1), .val (.ref bt), .val (.int (Int32.ofNat i)), .val (.long ck), .second, .val (.int (Int32.ofNat j)), .val (.long (0 : Int64)), .second] [(.int (Int32.ofNat j)), (.int ((Int32.ofNat i) * (9 : Int32))), (.ref bt)])) (fun t kt => XS.iload X1031.here hx rfl (hb hby d10_70) rfl kt) ?_
          refine go (T' := T1031) (g' := (mkF m 73 #[.val (.ref a1), .val (.int p1), .val (.ref bt), .val (.int (Int32.ofNat i)), .val (.long ck), .second, .val (.int (Int32.ofNat j)), .val (.long (0 : Int64)), .second] [(.int (((Int32.ofNat i) * (9 : Int32)) + (Int32.ofNat j))), (.ref bt)])) (fun t kt => XS.iadd X1031.here hx rfl (hb hby d10_72) rfl kt) ?_
          refine goEq (g' := (mkF m 73 #[.val (.ref a1), .val (.int p1), .val (.ref bt), .val (.int (Int32.ofNat i)), .val (.long ck), .second, .val (.int (Int32.ofNat j)), .val (.long (0 : Int64)), .second] [(.int (Int32.ofNat (i * 9 + j))), (.ref bt)])) (by rw [show Int32.ofNat i * (9 : Int32) = Int32.ofNat (i * 9) from nn_mul i 9, nn_add]) ?_
          refine go (T' := T1031) (g' := (mkF m 75 #[.val (.ref a1), .val (.int p1), .val (.ref bt), .val (.int (Int32.ofNat i)), .val (.long ck), .second, .val (.int (Int32.ofNat j)), .val (.long (0 : Int64)), .second] [(.long (0 : Int64)), (.int (Int32.ofNat (i * 9 + j))), (.ref bt)])) (fun t kt => XS.lload X1031.here hx rfl (hb hby d10_73) rfl kt) ?_
          obtain ⟨T1033, h1033, X1033, e1033, W1033, V1033, st1033⟩ := own_stJ X1031 hx hZ e1031 fj1029_4 (j := (Int32.ofNat (i * 9 + j))) ⟨nn_neg (by omega), (nn_lt (by omega) (by omega)).mpr (by omega)⟩ (g := (mkF m 75 #[.val (.ref a1), .val (.int p1), .val (.ref bt), .val (.int (Int32.ofNat i)), .val (.long ck), .second, .val (.int (Int32.ofNat j)), .val (.long (0 : Int64)), .second] [(.long (0 : Int64)), (.int (Int32.ofNat (i * 9 + j))), (.ref bt)])) rfl rfl (hb hby d10_75)
          have z1033 : n0 ≤ h1033.size := Nat.le_trans zj1029 (Keep.of_wr W1033).1
          have fF_a1_words_1033 : Fld Z h1033 a1 "com/example/tallyward/tallyward/io/KeyFilter$Building" "words" "[J" (.ref bw) := fj1029_0.other W1033 (Or.inl ne_a1_bt)
          have fF_a1_blocks_1033 : Fld Z h1033 a1 "com/example/tallyward/tallyward/io/KeyFilter$Building" "blocks" "Lcom/example/tallyward/tallyward/io/KeyFilter$Blocks;" (.ref bb) := fj1029_1.other W1033 (Or.inl ne_a1_bt)
          have fF_bb_count_1033 : Fld Z h1033 bb "com/example/tallyward/tallyward/io/KeyFilter$Blocks" "count" "I" (.int (Int32.ofNat n)) := fj1029_2.other W1033 (Or.inl ne_bb_bt)
          have fA_bw_1033 : Aw Z h1033 bw .long (Int32.ofNat (8 * n)) (fun _ => .long 0) := fj1029_3.other W1033 ne_bw_bt
          have K1033 : Keep h0 h1033 [] := Kj1029.wr W1033 (Or.inr o_bt)
          have N1033 := Fr.snoc X1033 Nj1029 g_bt
          refine go (T' := T1033) (g' := (mkF m 76 #[.val (.ref a1), .val (.int p1), .val (.ref bt), .val (.int (Int32.ofNat i)), .val (.long ck), .second, .val (.int (Int32.ofNat j)), .val (.long (0 : Int64)), .second] [])) st1033 ?_
          refine go (T' := T1033) (g' := (mkF m 78 #[.val (.ref a1), .val (.int p1), .val (.ref bt), .val (.int (Int32.ofNat i)), .val (.long ck), .second, .val (.int (Int32.ofNat j)), .val (.long (0 : Int64)), .second] [(.long ck)])) (fun t kt => XS.lload X1033.here hx rfl (hb hby d10_76) rfl kt) ?_
          refine go (T' := T1033) (g' := (mkF m 80 #[.val (.ref a1), .val (.int p1), .val (.ref bt), .val (.int (Int32.ofNat i)), .val (.long ck), .second, .val (.int (Int32.ofNat j)), .val (.long (0 : Int64)), .second] [(.int (Int32.ofNat j)), (.long ck)])) (fun t kt => XS.iload X1033.here hx rfl (hb hby d10_78) rfl kt) ?_
          refine go (T' := T1033) (g' := (mkF m 82 #[.val (.ref a1), .val (.int p1), .val (.ref bt), .val (.int (Int32.ofNat i)), .val (.long ck), .second, .val (.int (Int32.ofNat j)), .val (.long (0 : Int64)), .second] [(.long (0 : Int64)), (.int (Int32.ofNat j)), (.long ck)])) (fun t kt => XS.lload X1033.here hx rfl (hb hby d10_80) rfl kt) ?_
          obtain ⟨_, _, ⟨T1034, L1034, k1034, n1034⟩, -, X1034, ⟨Lc1034, hQ1034, l1034, y1034, z1034⟩, st1034⟩ := callSN X1033 hx (y := (⟨"com/example/tallyward/tallyward/io/KeyFilter", "withWord", "(JIJ)J"⟩ : MethodName)) hown (mvN' hZ (hw _ (List.mem_of_getElem? (i := 65) rfl))) (mvT hZ (hw _ (List.mem_of_getElem? (i := 66) rfl))) (mvT hZ (hw _ (List.mem_of_getElem? (i := 4) rfl))) (mvT hZ (hw _ (List.mem_of_getElem? (i := 67) rfl))) (by decide) (backOf (W := 0) (rm12 l Z a0 hw [] ck (Int32.ofNat j) 0 h1033 n0 z1033) hZ (hw _ (List.mem_of_getElem? (i := 67) rfl)) (hw _ (List.mem_of_getElem? (i := 4) rfl)) (by decide) (by decide)) (g := (mkF m 82 #[.val (.ref a1), .val (.int p1), .val (.ref bt), .val (.int (Int32.ofNat i)), .val (.long ck), .second, .val (.int (Int32.ofNat j)), .val (.long (0 : Int64)), .second] [(.long (0 : Int64)), (.int (Int32.ofNat j)), (.long ck)])) rfl (by rw [hml]; rfl) (argsL := [(.long ck), (.int (Int32.ofNat j)), (.long (0 : Int64))]) (rest := []) (lenOf pd_5 rfl) rfl (by show 2 * 0 + _ ≤ _; exact Nat.le_of_eq rfl) (hb hby d10_82) (fun _ _ => ⟨rfl, e1033, (by decide : 1 + 0 ≤ _), (by decide : 18 + 0 ≤ _)⟩)
          dsimp only [Pt.U, Pt.locs, Pt.cells, Pt.slots] at X1034 l1034 y1034 z1034 st1034 hQ1034
          subst l1034 y1034 z1034
          obtain ⟨xw, rfl, N1034q, e1034⟩ := hQ1034
          have N1034 := Fr.app N1033 N1034q
          refine goV (T' := T1034) (g' := (mkF m 85 #[.val (.ref a1), .val (.int p1), .val (.ref bt), .val (.int (Int32.ofNat i)), .val (.long ck), .second, .val (.int (Int32.ofNat j)), .val (.long (0 : Int64)), .second] [(.long xw)])) st1034 ?_
          refine go (T' := T1034) (g' := (mkF m 87 #[.val (.ref a1), .val (.int p1), .val (.ref bt), .val (.int (Int32.ofNat i)), .val (.long xw), .second, .val (.int (Int32.ofNat j)), .val (.long (0 : Int64)), .second] [])) (fun t kt => XS.lstore X1034.here hx rfl (hb hby d10_85) rfl (l' := #[.val (.ref a1), .val (.int p1), .val (.ref bt), .val (.int (Int32.ofNat i)), .val (.long xw), .second, .val (.int (Int32.ofNat j)), .val (.long (0 : Int64)), .second]) rfl kt) ?_
          refine go (T' := T1034) (g' := (mkF m 90 #[.val (.ref a1), .val (.int p1), .val (.ref bt), .val (.int (Int32.ofNat i)), .val (.long xw), .second, .val (.int ((Int32.ofNat j) + (1 : Int32))), .val (.long (0 : Int64)), .second] [])) (fun t kt => XS.iinc X1034.here hx rfl (hb hby d10_87) rfl (l' := #[.val (.ref a1), .val (.int p1), .val (.ref bt), .val (.int (Int32.ofNat i)), .val (.long xw), .second, .val (.int ((Int32.ofNat j) + (1 : Int32))), .val (.long (0 : Int64)), .second]) rfl kt) ?_
          refine goEq (g' := (mkF m 90 #[.val (.ref a1), .val (.int p1), .val (.ref bt), .val (.int (Int32.ofNat i)), .val (.long xw), .second, .val (.int (Int32.ofNat (j + 1))), .val (.long (0 : Int64)), .second] [])) (by rw [show Int32.ofNat j + (1 : Int32) = Int32.ofNat (j + 1) from nn_add j 1]) ?_
          refine go (T' := T1034) (g' := (mkF m 44 #[.val (.ref a1), .val (.int p1), .val (.ref bt), .val (.int (Int32.ofNat i)), .val (.long xw), .second, .val (.int (Int32.ofNat (j + 1))), .val (.long (0 : Int64)), .second] [])) (fun t kt => XS.goto X1034.here hx rfl (pc0 := 90) (pc' := 44) rfl (hb hby d10_90) (by decide) (by decide) kt) ?_
          exact ih_inner _ _ _ (j + 1) _ _ _ _ (X1034.more (by decide) (by decide)) e1034 N1034 z1033 K1033 fF_a1_words_1033 fF_a1_blocks_1033 fF_bb_count_1033 fA_bw_1033 V1033 Two.val (by omega)
      exact inner 8 _ _ _ 0 _ _ _ _ (X1026.more (by decide) (by decide)) e1026 N1026 zj1021 Kj1021 fj1021_0 fj1021_1 fj1021_2 fj1021_3 fj1021_4 hs7 rfl
  exact outer n _ _ _ 0 _ _ _ _ _ _ (X1020.more (by decide) (by decide)) e1020 N0 z1020 K1020 fF_a1_words_1020 fF_a1_blocks_1020 fF_bb_count_1020 fA_bw_1020 V_bt Two.u One.u Two.u (Nat.zero_add _)
theorem pd_6 : parseMethodDescriptor "(IZ)J" = some ⟨[.int, .boolean], some .long⟩ := by decide +kernel
theorem pd_7 : parseMethodDescriptor "(JJJ)V" = some ⟨[.long, .long, .long], none⟩ := by decide +kernel
theorem pd_8 : parseMethodDescriptor "()I" = some ⟨[], some .int⟩ := by decide +kernel
theorem pd_9 : parseMethodDescriptor "(Z)[J" = some ⟨[.boolean], some (.array .long)⟩ := by decide +kernel
theorem pn_0 : plainName "com/example/tallyward/tallyward/io/KeyFilterBytesPinLaw" = true := by first | (simp [plainName, overriddenIn]; done) | decide +kernel
theorem ef_0 (m : MethodId) (p1 : Int32) (p2 : Int32) (q1 : Int64) : entryFrame m #[(.int p1), (.int p2), (.long q1)] maxLocals = mkF m 0 #[.val (.int p1), .val (.int p2), .val (.long q1), .second, .unset, .unset, .unset, .unset, .unset, .unset, .unset, .unset, .unset, .unset] [] := by first | (simp [entryFrame, mkF, argsToLocals, Value.category, maxLocals]; done) | rfl
def Q0 (Z : State) (p1 : Int32) (p2 : Int32) (q1 : Int64) (h0 : Heap) (n0 : Nat) (v : Option Value) (h : Heap) (L : List Loc) : Prop := v = some (.int 1) ∧ Fr n0 L
set_option maxRecDepth 65536 in
set_option maxHeartbeats 40000000 in
theorem rm0 (l : Launch) (Z : State) (a0 : Array Value) (hw : ∀ d ∈ tables_1, d.before a0 Z = true) (ws : List Jvm.Cond) (p1 : Int32) (p2 : Int32) (q1 : Int64) (h0 : Heap) (n0 : Nat) (Z0 : n0 ≤ h0.size)  :
    MetFree l x (head1 (Jvm.Cond.code x code maxLocals ret :: ws) room_1) (fun a U => a = #[(.int p1), (.int p2), (.long q1)] ∧ Z.Warmed39 U.vm ∧ U.heap = h0) (fun _ _ _ _ _ => True) (fun _ U o U' => ∃ v L, o = .returned v ∧ Q0 Z p1 p2 q1 h0 n0 v U'.heap L ∧ FrameEnd U o U' L 4 39) := by
  refine MetFree.of_bodySF (plainFor_of_name pn_0) hisR ?_
  intro p e s m args below meth c s₁ Bd hml0 hP hK
  obtain ⟨rfl, hZ, hh⟩ := hP
  have hx := Bd.exec
  have hby := Bd.bytes
  have hlk := Bd.notSynchronized
  have hml : c.maxLocals = 14 := hml0
  have hown : s.vm.findClass "com/example/tallyward/tallyward/io/KeyFilterBytesPinLaw" = some m.cls := findClass_of_methodNamed Bd.named
  have hnm := (name_of_methodNamed Bd.named Bd.method).1
  have X0 : Stand p l e room_1 s m #[(.int p1), (.int p2), (.long q1)] below meth c s₁ [] 0 0 := Stand.of_body Bd
  have e0 : s₁.heap = h0 := by rw [← hh, Bd.state]; rfl
  have N0 := Fr.nil n0
  show Goes p e below s 4 39 (Q0 Z p1 p2 q1 h0 n0) s₁ (entryFrame m #[(.int p1), (.int p2), (.long q1)] maxLocals)
  refine goEq (ef_0 m p1 p2 q1) ?_
  obtain ⟨hr, hv⟩ := own_rawK q1
  obtain ⟨n, hn, hb1⟩ : ∃ n : Nat, (n = 1 ∨ n = 2) ∧ (own_raw (q1 &&& 31)).toInt32 = Int32.ofNat n := by
    rcases hv with hv | hv
    · exact ⟨1, Or.inl rfl, hv⟩
    · exact ⟨2, Or.inr rfl, hv⟩
  refine go (T' := s₁) (g' := (mkF m 1 #[.val (.int p1), .val (.int p2), .val (.long q1), .second, .unset, .unset, .unset, .unset, .unset, .unset, .unset, .unset, .unset, .unset] [(.int p2)])) (fun t kt => XS.iloadN X0.here hx rfl (hb hby at_0) rfl kt) ?_
  refine go (T' := s₁) (g' := (mkF m 2 #[.val (.int p1), .val (.int p2), .val (.long q1), .second, .unset, .unset, .unset, .unset, .unset, .unset, .unset, .unset, .unset, .unset] [(.int (1 : Int32)), (.int p2)])) (fun t kt => XS.iconst X0.here hx rfl (hb hby at_1) kt) ?_
  refine go (T' := s₁) (g' := (mkF m 3 #[.val (.int p1), .val (.int p2), .val (.long q1), .second, .unset, .unset, .unset, .unset, .unset, .unset, .unset, .unset, .unset, .unset] [(.int (p2 &&& (1 : Int32)))])) (fun t kt => XS.iand X0.here hx rfl (hb hby at_2) rfl kt) ?_
  by_cases hf : (p2 &&& (1 : Int32)) = (0 : Int32)
  · refine go (T' := s₁) (g' := (mkF m 10 #[.val (.int p1), .val (.int p2), .val (.long q1), .second, .unset, .unset, .unset, .unset, .unset, .unset, .unset, .unset, .unset, .unset] [])) (fun t kt => XS.ifYes X0.here hx rfl (pc0 := 3) (pc' := 10) rfl (hb hby at_3) rfl ((if0 _ _).trans (teq hf).1) (by decide) (by decide) kt) ?_
    refine go (T' := s₁) (g' := (mkF m 11 #[.val (.int p1), .val (.int p2), .val (.long q1), .second, .unset, .unset, .unset, .unset, .unset, .unset, .unset, .unset, .unset, .unset] [(.int (0 : Int32))])) (fun t kt => XS.iconst X0.here hx rfl (hb hby at_10) kt) ?_
    refine go (T' := s₁) (g' := (mkF m 13 #[.val (.int p1), .val (.int p2), .val (.long q1), .second, .val (.int (0 : Int32)), .unset, .unset, .unset, .unset, .unset, .unset, .unset, .unset, .unset] [])) (fun t kt => XS.istore X0.here hx rfl (hb hby at_11) rfl (l' := #[.val (.int p1), .val (.int p2), .val (.long q1), .second, .val (.int (0 : Int32)), .unset, .unset, .unset, .unset, .unset, .unset, .unset, .unset, .unset]) rfl kt) ?_
    refine go (T' := s₁) (g' := (mkF m 15 #[.val (.int p1), .val (.int p2), .val (.long q1), .second, .val (.int (0 : Int32)), .unset, .unset, .unset, .unset, .unset, .unset, .unset, .unset, .unset] [(.int (0 : Int32))])) (fun t kt => XS.iload X0.here hx rfl (hb hby at_13) rfl kt) ?_
    refine go (T' := s₁) (g' := (mkF m 24 #[.val (.int p1), .val (.int p2), .val (.long q1), .second, .val (.int (0 : Int32)), .unset, .unset, .unset, .unset, .unset, .unset, .unset, .unset, .unset] [])) (fun t kt => XS.ifYes X0.here hx rfl (pc0 := 15) (pc' := 24) rfl (hb hby at_15) rfl ((if0 _ _).trans (teq rfl).1) (by decide) (by decide) kt) ?_
    refine go (T' := s₁) (g' := (mkF m 27 #[.val (.int p1), .val (.int p2), .val (.long q1), .second, .val (.int (0 : Int32)), .unset, .unset, .unset, .unset, .unset, .unset, .unset, .unset, .unset] [(.long (8 : Int64))])) (fun t kt => X0.ldc2Long hx hown (mvT hZ (hw _ (List.mem_of_getElem? (i := 1) rfl))) (g := (mkF m 24 #[.val (.int p1), .val (.int p2), .val (.long q1), .second, .val (.int (0 : Int32)), .unset, .unset, .unset, .unset, .unset, .unset, .unset, .unset, .unset] [])) rfl (hb hby at_24) _ kt) ?_
    refine go (T' := s₁) (g' := (mkF m 29 #[.val (.int p1), .val (.int p2), .val (.long q1), .second, .val (.int (0 : Int32)), .val (.long (8 : Int64)), .second, .unset, .unset, .unset, .unset, .unset, .unset, .unset] [])) (fun t kt => XS.lstore X0.here hx rfl (hb hby at_27) rfl (l' := #[.val (.int p1), .val (.int p2), .val (.long q1), .second, .val (.int (0 : Int32)), .val (.long (8 : Int64)), .second, .unset, .unset, .unset, .unset, .unset, .unset, .unset]) rfl kt) ?_
    refine go (T' := s₁) (g' := (mkF m 30 #[.val (.int p1), .val (.int p2), .val (.long q1), .second, .val (.int (0 : Int32)), .val (.long (8 : Int64)), .second, .unset, .unset, .unset, .unset, .unset, .unset, .unset] [(.int p1)])) (fun t kt => XS.iloadN X0.here hx rfl (hb hby at_29) rfl kt) ?_
    refine go (T' := s₁) (g' := (mkF m 31 #[.val (.int p1), .val (.int p2), .val (.long q1), .second, .val (.int (0 : Int32)), .val (.long (8 : Int64)), .second, .unset, .unset, .unset, .unset, .unset, .unset, .unset] [(.long (p1.toInt64))])) (fun t kt => XS.i2l X0.here hx rfl (hb hby at_30) rfl kt) ?_
    refine go (T' := s₁) (g' := (mkF m 33 #[.val (.int p1), .val (.int p2), .val (.long q1), .second, .val (.int (0 : Int32)), .val (.long (8 : Int64)), .second, .unset, .unset, .unset, .unset, .unset, .unset, .unset] [(.long (8 : Int64)), (.long (p1.toInt64))])) (fun t kt => XS.lload X0.here hx rfl (hb hby at_31) rfl kt) ?_
    refine go (T' := s₁) (g' := (mkF m 34 #[.val (.int p1), .val (.int p2), .val (.long q1), .second, .val (.int (0 : Int32)), .val (.long (8 : Int64)), .second, .unset, .unset, .unset, .unset, .unset, .unset, .unset] [(.long ((p1.toInt64) * (8 : Int64)))])) (fun t kt => XS.lmul X0.here hx rfl (hb hby at_33) rfl kt) ?_
    refine go (T' := s₁) (g' := (mkF m 37 #[.val (.int p1), .val (.int p2), .val (.long q1), .second, .val (.int (0 : Int32)), .val (.long (8 : Int64)), .second, .unset, .unset, .unset, .unset, .unset, .unset, .unset] [(.long (8 : Int64)), (.long ((p1.toInt64) * (8 : Int64)))])) (fun t kt => X0.ldc2Long hx hown (mvT hZ (hw _ (List.mem_of_getElem? (i := 1) rfl))) (g := (mkF m 34 #[.val (.int p1), .val (.int p2), .val (.long q1), .second, .val (.int (0 : Int32)), .val (.long (8 : Int64)), .second, .unset, .unset, .unset, .unset, .unset, .unset, .unset] [(.long ((p1.toInt64) * (8 : Int64)))])) rfl (hb hby at_34) _ kt) ?_
    refine go (T' := s₁) (g' := (mkF m 38 #[.val (.int p1), .val (.int p2), .val (.long q1), .second, .val (.int (0 : Int32)), .val (.long (8 : Int64)), .second, .unset, .unset, .unset, .unset, .unset, .unset, .unset] [(.long (((p1.toInt64) * (8 : Int64)) * (8 : Int64)))])) (fun t kt => XS.lmul X0.here hx rfl (hb hby at_37) rfl kt) ?_
    refine go (T' := s₁) (g' := (mkF m 40 #[.val (.int p1), .val (.int p2), .val (.long q1), .second, .val (.int (0 : Int32)), .val (.long (8 : Int64)), .second, .val (.long (((p1.toInt64) * (8 : Int64)) * (8 : Int64))), .second, .unset, .unset, .unset, .unset, .unset] [])) (fun t kt => XS.lstore X0.here hx rfl (hb hby at_38) rfl (l' := #[.val (.int p1), .val (.int p2), .val (.long q1), .second, .val (.int (0 : Int32)), .val (.long (8 : Int64)), .second, .val (.long (((p1.toInt64) * (8 : Int64)) * (8 : Int64))), .second, .unset, .unset, .unset, .unset, .unset]) rfl kt) ?_
    refine go (T' := s₁) (g' := (mkF m 41 #[.val (.int p1), .val (.int p2), .val (.long q1), .second, .val (.int (0 : Int32)), .val (.long (8 : Int64)), .second, .val (.long (((p1.toInt64) * (8 : Int64)) * (8 : Int64))), .second, .unset, .unset, .unset, .unset, .unset] [(.int p1)])) (fun t kt => XS.iloadN X0.here hx rfl (hb hby at_40) rfl kt) ?_
    refine go (T' := s₁) (g' := (mkF m 43 #[.val (.int p1), .val (.int p2), .val (.long q1), .second, .val (.int (0 : Int32)), .val (.long (8 : Int64)), .second, .val (.long (((p1.toInt64) * (8 : Int64)) * (8 : Int64))), .second, .unset, .unset, .unset, .unset, .unset] [(.int (0 : Int32)), (.int p1)])) (fun t kt => XS.iload X0.here hx rfl (hb hby at_41) rfl kt) ?_
    obtain ⟨_, _, ⟨T1035, L1035, k1035, n1035⟩, -, X1035, ⟨Lc1035, hQ1035, l1035, y1035, z1035⟩, st1035⟩ := Jvm.LawKit.callS X0 hx (y := (⟨"com/example/tallyward/tallyward/io/KeyFilter", "bytes", "(IZ)J"⟩ : MethodName)) hown (mvT hZ (hw _ (List.mem_of_getElem? (i := 2) rfl))) (mvT hZ (hw _ (List.mem_of_getElem? (i := 3) rfl))) (mvT hZ (hw _ (List.mem_of_getElem? (i := 4) rfl))) (mvT hZ (hw _ (List.mem_of_getElem? (i := 5) rfl))) (by decide) (backOf (W := 0) (rm1 l Z a0 hw [] p1 0 h0 n0 Z0) hZ (hw _ (List.mem_of_getElem? (i := 5) rfl)) (hw _ (List.mem_of_getElem? (i := 4) rfl)) (by decide) (by decide)) (g := (mkF m 43 #[.val (.int p1), .val (.int p2), .val (.long q1), .second, .val (.int (0 : Int32)), .val (.long (8 : Int64)), .second, .val (.long (((p1.toInt64) * (8 : Int64)) * (8 : Int64))), .second, .unset, .unset, .unset, .unset, .unset] [(.int (0 : Int32)), (.int p1)])) rfl (by rw [hml]; rfl) (argsL := [(.int p1), (.int (0 : Int32))]) (rest := []) (lenOf pd_6 rfl) rfl (by show 2 * 0 + _ ≤ _; exact Nat.le_of_eq rfl) (hb hby at_43) (fun _ _ => ⟨rfl, e0, (by decide : 0 + 0 ≤ _), (by decide : 0 + 0 ≤ _)⟩)
    dsimp only [Pt.U, Pt.locs, Pt.cells, Pt.slots] at X1035 l1035 y1035 z1035 st1035 hQ1035
    subst l1035 y1035 z1035
    obtain ⟨rfl, N1035q, e1035⟩ := hQ1035
    have N1035 := Fr.app N0 N1035q
    refine go (T' := T1035) (g' := (mkF m 46 #[.val (.int p1), .val (.int p2), .val (.long q1), .second, .val (.int (0 : Int32)), .val (.long (8 : Int64)), .second, .val (.long (((p1.toInt64) * (8 : Int64)) * (8 : Int64))), .second, .unset, .unset, .unset, .unset, .unset] [(.long (own_by p1 0))])) st1035 ?_
    refine go (T' := T1035) (g' := (mkF m 48 #[.val (.int p1), .val (.int p2), .val (.long q1), .second, .val (.int (0 : Int32)), .val (.long (8 : Int64)), .second, .val (.long (((p1.toInt64) * (8 : Int64)) * (8 : Int64))), .second, .unset, .unset, .unset, .unset, .unset] [(.long (((p1.toInt64) * (8 : Int64)) * (8 : Int64))), (.long (own_by p1 0))])) (fun t kt => XS.lload X1035.here hx rfl (hb hby at_46) rfl kt) ?_
    refine go (T' := T1035) (g' := (mkF m 49 #[.val (.int p1), .val (.int p2), .val (.long q1), .second, .val (.int (0 : Int32)), .val (.long (8 : Int64)), .second, .val (.long (((p1.toInt64) * (8 : Int64)) * (8 : Int64))), .second, .unset, .unset, .unset, .unset, .unset] [(.int (lcmpW (own_by p1 0) (((p1.toInt64) * (8 : Int64)) * (8 : Int64))))])) (fun t kt => XS.lcmp X1035.here hx rfl (hb hby at_48) rfl kt) ?_
    refine go (T' := T1035) (g' := (mkF m 52 #[.val (.int p1), .val (.int p2), .val (.long q1), .second, .val (.int (0 : Int32)), .val (.long (8 : Int64)), .second, .val (.long (((p1.toInt64) * (8 : Int64)) * (8 : Int64))), .second, .unset, .unset, .unset, .unset, .unset] [])) (fun t kt => XS.ifNo X1035.here hx rfl (hb hby at_49) rfl (own_l0 (own_by0 p1)).2 kt) ?_
    refine go (T' := T1035) (g' := (mkF m 53 #[.val (.int p1), .val (.int p2), .val (.long q1), .second, .val (.int (0 : Int32)), .val (.long (8 : Int64)), .second, .val (.long (((p1.toInt64) * (8 : Int64)) * (8 : Int64))), .second, .unset, .unset, .unset, .unset, .unset] [(.int (1 : Int32))])) (fun t kt => XS.iconst X1035.here hx rfl (hb hby at_52) kt) ?_
    refine go (T' := T1035) (g' := (mkF m 57 #[.val (.int p1), .val (.int p2), .val (.long q1), .second, .val (.int (0 : Int32)), .val (.long (8 : Int64)), .second, .val (.long (((p1.toInt64) * (8 : Int64)) * (8 : Int64))), .second, .unset, .unset, .unset, .unset, .unset] [(.int (1 : Int32))])) (fun t kt => XS.goto X1035.here hx rfl (pc0 := 53) (pc' := 57) rfl (hb hby at_53) (by decide) (by decide) kt) ?_
    refine go (T' := T1035) (g' := (mkF m 59 #[.val (.int p1), .val (.int p2), .val (.long q1), .second, .val (.int (0 : Int32)), .val (.long (8 : Int64)), .second, .val (.long (((p1.toInt64) * (8 : Int64)) * (8 : Int64))), .second, .val (.int (1 : Int32)), .unset, .unset, .unset, .unset] [])) (fun t kt => XS.istore X1035.here hx rfl (hb hby at_57) rfl (l' := #[.val (.int p1), .val (.int p2), .val (.long q1), .second, .val (.int (0 : Int32)), .val (.long (8 : Int64)), .second, .val (.long (((p1.toInt64) * (8 : Int64)) * (8 : Int64))), .second, .val (.int (1 : Int32)), .unset, .unset, .unset, .unset]) rfl kt) ?_
    obtain ⟨T1036, h1036, X1036, e1036, E1036, A1036, D1036, -, st1036⟩ := newO X1035 hx hZ hown (hw _ (List.mem_of_getElem? (i := 6) rfl)) (hw _ (List.mem_of_getElem? (i := 7) rfl)) (hw _ (List.mem_of_getElem? (i := 8) rfl)) e1035 (g := (mkF m 59 #[.val (.int p1), .val (.int p2), .val (.long q1), .second, .val (.int (0 : Int32)), .val (.long (8 : Int64)), .second, .val (.long (((p1.toInt64) * (8 : Int64)) * (8 : Int64))), .second, .val (.int (1 : Int32)), .unset, .unset, .unset, .unset] [])) rfl (hb hby at_59) (by decide) (by decide)
    obtain ⟨bu, g1036⟩ : ∃ z, z = h0.size := ⟨_, rfl⟩
    rw [← g1036] at A1036 D1036 st1036
    have g_bu : n0 ≤ bu := Nat.le_trans Z0 (Nat.le_of_eq g1036.symm)
    have z1036 : n0 ≤ h1036.size := Nat.le_trans Z0 E1036.1
    have F_words_bu : Fld Z h1036 bu "com/example/tallyward/tallyward/io/KeyFilter$Building" "words" "[J" .null := D1036 (Or.inr (hw _ (List.mem_of_getElem? (i := 33) rfl))) (ty := (.array .long)) (by decide)
    have F_blocks_bu : Fld Z h1036 bu "com/example/tallyward/tallyward/io/KeyFilter$Building" "blocks" "Lcom/example/tallyward/tallyward/io/KeyFilter$Blocks;" .null := D1036 (Or.inr (hw _ (List.mem_of_getElem? (i := 48) rfl))) (ty := (.object "com/example/tallyward/tallyward/io/KeyFilter$Blocks")) (by decide)
    refine go (T' := T1036) (g' := (mkF m 62 #[.val (.int p1), .val (.int p2), .val (.long q1), .second, .val (.int (0 : Int32)), .val (.long (8 : Int64)), .second, .val (.long (((p1.toInt64) * (8 : Int64)) * (8 : Int64))), .second, .val (.int (1 : Int32)), .unset, .unset, .unset, .unset] [(.ref bu)])) st1036 ?_
    refine go (T' := T1036) (g' := (mkF m 63 #[.val (.int p1), .val (.int p2), .val (.long q1), .second, .val (.int (0 : Int32)), .val (.long (8 : Int64)), .second, .val (.long (((p1.toInt64) * (8 : Int64)) * (8 : Int64))), .second, .val (.int (1 : Int32)), .unset, .unset, .unset, .unset] [(.ref bu), (.ref bu)])) (fun t kt => XS.dup X1036.here hx rfl (hb hby at_62) rfl rfl kt) ?_
    refine go (T' := T1036) (g' := (mkF m 64 #[.val (.int p1), .val (.int p2), .val (.long q1), .second, .val (.int (0 : Int32)), .val (.long (8 : Int64)), .second, .val (.long (((p1.toInt64) * (8 : Int64)) * (8 : Int64))), .second, .val (.int (1 : Int32)), .unset, .unset, .unset, .unset] [(.long q1), (.ref bu), (.ref bu)])) (fun t kt => XS.lloadN X1036.here hx rfl (hb hby at_63) rfl kt) ?_
    refine go (T' := T1036) (g' := (mkF m 67 #[.val (.int p1), .val (.int p2), .val (.long q1), .second, .val (.int (0 : Int32)), .val (.long (8 : Int64)), .second, .val (.long (((p1.toInt64) * (8 : Int64)) * (8 : Int64))), .second, .val (.int (1 : Int32)), .unset, .unset, .unset, .unset] [(.long (31 : Int64)), (.long q1), (.ref bu), (.ref bu)])) (fun t kt => X1036.ldc2Long hx hown (mvT hZ (hw _ (List.mem_of_getElem? (i := 9) rfl))) (g := (mkF m 64 #[.val (.int p1), .val (.int p2), .val (.long q1), .second, .val (.int (0 : Int32)), .val (.long (8 : Int64)), .second, .val (.long (((p1.toInt64) * (8 : Int64)) * (8 : Int64))), .second, .val (.int (1 : Int32)), .unset, .unset, .unset, .unset] [(.long q1), (.ref bu), (.ref bu)])) rfl (hb hby at_64) _ kt) ?_
    refine go (T' := T1036) (g' := (mkF m 68 #[.val (.int p1), .val (.int p2), .val (.long q1), .second, .val (.int (0 : Int32)), .val (.long (8 : Int64)), .second, .val (.long (((p1.toInt64) * (8 : Int64)) * (8 : Int64))), .second, .val (.int (1 : Int32)), .unset, .unset, .unset, .unset] [(.long (q1 &&& (31 : Int64))), (.ref bu), (.ref bu)])) (fun t kt => XS.land X1036.here hx rfl (hb hby at_67) rfl kt) ?_
    refine go (T' := T1036) (g' := (mkF m 69 #[.val (.int p1), .val (.int p2), .val (.long q1), .second, .val (.int (0 : Int32)), .val (.long (8 : Int64)), .second, .val (.long (((p1.toInt64) * (8 : Int64)) * (8 : Int64))), .second, .val (.int (1 : Int32)), .unset, .unset, .unset, .unset] [(.long (0 : Int64)), (.long (q1 &&& (31 : Int64))), (.ref bu), (.ref bu)])) (fun t kt => XS.lconst X1036.here hx rfl (hb hby at_68) kt) ?_
    refine go (T' := T1036) (g' := (mkF m 70 #[.val (.int p1), .val (.int p2), .val (.long q1), .second, .val (.int (0 : Int32)), .val (.long (8 : Int64)), .second, .val (.long (((p1.toInt64) * (8 : Int64)) * (8 : Int64))), .second, .val (.int (1 : Int32)), .unset, .unset, .unset, .unset] [(.long (0 : Int64)), (.long (0 : Int64)), (.long (q1 &&& (31 : Int64))), (.ref bu), (.ref bu)])) (fun t kt => XS.lconst X1036.here hx rfl (hb hby at_69) kt) ?_
    obtain ⟨_, _, ⟨T1037, L1037, k1037, n1037⟩, -, X1037, ⟨Lc1037, hQ1037, l1037, y1037, z1037⟩, st1037⟩ := X1036.specialBack hx (y := (⟨"com/example/tallyward/tallyward/io/KeyFilter$Building", "<init>", "(JJJ)V"⟩ : MethodName)) rfl hown (mvT hZ (hw _ (List.mem_of_getElem? (i := 10) rfl))) (mvT hZ (hw _ (List.mem_of_getElem? (i := 11) rfl))) (mvT hZ (hw _ (List.mem_of_getElem? (i := 12) rfl))) (by decide) (backOf (W := 1) (rm2 l Z a0 hw [] bu (q1 &&& 31) 0 0 n h1036 n0 z1036 g_bu A1036 F_words_bu F_blocks_bu rfl rfl hr hb1 hn) hZ (hw _ (List.mem_of_getElem? (i := 12) rfl)) (hw _ (List.mem_of_getElem? (i := 8) rfl)) (by decide) (by decide)) (g := (mkF m 70 #[.val (.int p1), .val (.int p2), .val (.long q1), .second, .val (.int (0 : Int32)), .val (.long (8 : Int64)), .second, .val (.long (((p1.toInt64) * (8 : Int64)) * (8 : Int64))), .second, .val (.int (1 : Int32)), .unset, .unset, .unset, .unset] [(.long (0 : Int64)), (.long (0 : Int64)), (.long (q1 &&& (31 : Int64))), (.ref bu), (.ref bu)])) rfl (by rw [hml]; rfl) (Steps.refl _) (a := bu) (argsL := [(.long (q1 &&& (31 : Int64))), (.long (0 : Int64)), (.long (0 : Int64))]) (rest := [(.ref bu)]) (lenOf pd_7 rfl) rfl (by show 2 * 0 + _ ≤ _; exact Nat.le_of_eq rfl) (hb hby at_70) (fun _ _ => ⟨rfl, e1036, (by decide : 1 + 2 ≤ _), (by decide : 2 + 19 ≤ _)⟩)
    dsimp only [Pt.U, Pt.locs, Pt.cells, Pt.slots] at X1037 l1037 y1037 z1037 st1037 hQ1037
    subst l1037 y1037 z1037
    obtain ⟨rfl, N1037q, K1037, bw, bb, nbw, nbb, Fw, Vw, Fb, Fc⟩ := hQ1037
    have N1037 := Fr.app N1035 N1037q
    refine goV (T' := T1037) (g' := (mkF m 73 #[.val (.int p1), .val (.int p2), .val (.long q1), .second, .val (.int (0 : Int32)), .val (.long (8 : Int64)), .second, .val (.long (((p1.toInt64) * (8 : Int64)) * (8 : Int64))), .second, .val (.int (1 : Int32)), .unset, .unset, .unset, .unset] [(.ref bu)])) st1037 ?_
    have z1037 : n0 ≤ T1037.heap.size := Nat.le_trans z1036 K1037.1
    have fE_bu_1037 : Exa Z T1037.heap bu "com/example/tallyward/tallyward/io/KeyFilter$Building" := A1036.keep K1037
    refine go (T' := T1037) (g' := (mkF m 75 #[.val (.int p1), .val (.int p2), .val (.long q1), .second, .val (.int (0 : Int32)), .val (.long (8 : Int64)), .second, .val (.long (((p1.toInt64) * (8 : Int64)) * (8 : Int64))), .second, .val (.int (1 : Int32)), .val (.ref bu), .unset, .unset, .unset] [])) (fun t kt => XS.astore X1037.here hx rfl (hb hby at_73) rfl rfl (l' := #[.val (.int p1), .val (.int p2), .val (.long q1), .second, .val (.int (0 : Int32)), .val (.long (8 : Int64)), .second, .val (.long (((p1.toInt64) * (8 : Int64)) * (8 : Int64))), .second, .val (.int (1 : Int32)), .val (.ref bu), .unset, .unset, .unset]) rfl kt) ?_
    refine go (T' := T1037) (g' := (mkF m 77 #[.val (.int p1), .val (.int p2), .val (.long q1), .second, .val (.int (0 : Int32)), .val (.long (8 : Int64)), .second, .val (.long (((p1.toInt64) * (8 : Int64)) * (8 : Int64))), .second, .val (.int (1 : Int32)), .val (.ref bu), .unset, .unset, .unset] [(.ref bu)])) (fun t kt => XS.aload X1037.here hx rfl (hb hby at_75) rfl rfl kt) ?_
    obtain ⟨cq1038, kq1038, q1038a, q1038b, q1038c⟩ := isOf hZ rfl fE_bu_1037
    obtain ⟨_, _, ⟨T1038, L1038, k1038, n1038⟩, -, X1038, ⟨Lc1038, hQ1038, l1038, y1038, z1038⟩, st1038⟩ := X1037.virtualBack hx (y := (⟨"com/example/tallyward/tallyward/io/KeyFilter$Building", "blocks", "()I"⟩ : MethodName)) (z := (⟨"com/example/tallyward/tallyward/io/KeyFilter$Building", "blocks", "()I"⟩ : MethodName)) hown (mvT hZ (hw _ (List.mem_of_getElem? (i := 49) rfl))) (mvT hZ (hw _ (List.mem_of_getElem? (i := 50) rfl))) (notFace_of_selects (args := #[]) (mvT hZ (hw _ (List.mem_of_getElem? (i := 52) rfl)))) (mvT hZ (hw _ (List.mem_of_getElem? (i := 52) rfl))) (mvT hZ (hw _ (List.mem_of_getElem? (i := 51) rfl))) (by decide) (backOf (W := 0) (rm9 l Z a0 hw [] bu bb n T1037.heap n0 z1037 Fb Fc) hZ (hw _ (List.mem_of_getElem? (i := 53) rfl)) (hw _ (List.mem_of_getElem? (i := 8) rfl)) (by decide) (by decide)) q1038a q1038c (g := (mkF m 77 #[.val (.int p1), .val (.int p2), .val (.long q1), .second, .val (.int (0 : Int32)), .val (.long (8 : Int64)), .second, .val (.long (((p1.toInt64) * (8 : Int64)) * (8 : Int64))), .second, .val (.int (1 : Int32)), .val (.ref bu), .unset, .unset, .unset] [(.ref bu)])) rfl (by rw [hml]; rfl) (Steps.refl _) (argsL := []) (rest := []) (lenOf pd_8 rfl) rfl (by show 2 * 0 + _ ≤ _; exact Nat.le_of_eq rfl) (hb hby at_77) (fun _ _ => ⟨rfl, rfl, (by decide : 3 + 0 ≤ _), (by decide : 21 + 0 ≤ _)⟩)
    dsimp only [Pt.U, Pt.locs, Pt.cells, Pt.slots] at X1038 l1038 y1038 z1038 st1038 hQ1038
    subst l1038 y1038 z1038
    obtain ⟨rfl, N1038q, e1038⟩ := hQ1038
    have N1038 := Fr.app N1037 N1038q
    refine goV (T' := T1038) (g' := (mkF m 80 #[.val (.int p1), .val (.int p2), .val (.long q1), .second, .val (.int (0 : Int32)), .val (.long (8 : Int64)), .second, .val (.long (((p1.toInt64) * (8 : Int64)) * (8 : Int64))), .second, .val (.int (1 : Int32)), .val (.ref bu), .unset, .unset, .unset] [(.int (Int32.ofNat n))])) st1038 ?_
    refine go (T' := T1038) (g' := (mkF m 82 #[.val (.int p1), .val (.int p2), .val (.long q1), .second, .val (.int (0 : Int32)), .val (.long (8 : Int64)), .second, .val (.long (((p1.toInt64) * (8 : Int64)) * (8 : Int64))), .second, .val (.int (1 : Int32)), .val (.ref bu), .val (.int (Int32.ofNat n)), .unset, .unset] [])) (fun t kt => XS.istore X1038.here hx rfl (hb hby at_80) rfl (l' := #[.val (.int p1), .val (.int p2), .val (.long q1), .second, .val (.int (0 : Int32)), .val (.long (8 : Int64)), .second, .val (.long (((p1.toInt64) * (8 : Int64)) * (8 : Int64))), .second, .val (.int (1 : Int32)), .val (.ref bu), .val (.int (Int32.ofNat n)), .unset, .unset]) rfl kt) ?_
    refine go (T' := T1038) (g' := (mkF m 84 #[.val (.int p1), .val (.int p2), .val (.long q1), .second, .val (.int (0 : Int32)), .val (.long (8 : Int64)), .second, .val (.long (((p1.toInt64) * (8 : Int64)) * (8 : Int64))), .second, .val (.int (1 : Int32)), .val (.ref bu), .val (.int (Int32.ofNat n)), .unset, .unset] [(.ref bu)])) (fun t kt => XS.aload X1038.here hx rfl (hb hby at_82) rfl rfl kt) ?_
    refine go (T' := T1038) (g' := (mkF m 86 #[.val (.int p1), .val (.int p2), .val (.long q1), .second, .val (.int (0 : Int32)), .val (.long (8 : Int64)), .second, .val (.long (((p1.toInt64) * (8 : Int64)) * (8 : Int64))), .second, .val (.int (1 : Int32)), .val (.ref bu), .val (.int (Int32.ofNat n)), .unset, .unset] [(.int (0 : Int32)), (.ref bu)])) (fun t kt => XS.iload X1038.here hx rfl (hb hby at_84) rfl kt) ?_
    obtain ⟨cq1039, kq1039, q1039a, q1039b, q1039c⟩ := isOf hZ e1038 fE_bu_1037
    obtain ⟨_, _, ⟨T1039, L1039, k1039, n1039⟩, -, X1039, ⟨Lc1039, hQ1039, l1039, y1039, z1039⟩, st1039⟩ := X1038.virtualBack hx (y := (⟨"com/example/tallyward/tallyward/io/KeyFilter$Building", "words", "(Z)[J"⟩ : MethodName)) (z := (⟨"com/example/tallyward/tallyward/io/KeyFilter$Building", "words", "(Z)[J"⟩ : MethodName)) hown (mvT hZ (hw _ (List.mem_of_getElem? (i := 55) rfl))) (mvT hZ (hw _ (List.mem_of_getElem? (i := 56) rfl))) (notFace_of_selects (args := #[]) (mvT hZ (hw _ (List.mem_of_getElem? (i := 58) rfl)))) (mvT hZ (hw _ (List.mem_of_getElem? (i := 58) rfl))) (mvT hZ (hw _ (List.mem_of_getElem? (i := 57) rfl))) (by decide) (backOf (W := 0) (rm_w0 l Z a0 hw [] bu 0 bw bb n T1037.heap n0 z1037 rfl Fw Vw Fb Fc) hZ (hw _ (List.mem_of_getElem? (i := 59) rfl)) (hw _ (List.mem_of_getElem? (i := 8) rfl)) (by decide) (by decide)) q1039a q1039c (g := (mkF m 86 #[.val (.int p1), .val (.int p2), .val (.long q1), .second, .val (.int (0 : Int32)), .val (.long (8 : Int64)), .second, .val (.long (((p1.toInt64) * (8 : Int64)) * (8 : Int64))), .second, .val (.int (1 : Int32)), .val (.ref bu), .val (.int (Int32.ofNat n)), .unset, .unset] [(.int (0 : Int32)), (.ref bu)])) rfl (by rw [hml]; rfl) (Steps.refl _) (argsL := [(.int (0 : Int32))]) (rest := []) (lenOf pd_9 rfl) rfl (by show 2 * 0 + _ ≤ _; exact Nat.le_of_eq rfl) (hb hby at_86) (fun _ _ => ⟨rfl, e1038, (by decide : 3 + 0 ≤ _), (by decide : 21 + 0 ≤ _)⟩)
    dsimp only [Pt.U, Pt.locs, Pt.cells, Pt.slots] at X1039 l1039 y1039 z1039 st1039 hQ1039
    subst l1039 y1039 z1039
    obtain ⟨bz, fz, rfl, N1039q, K1039, Vz⟩ := hQ1039
    have N1039 := Fr.app N1038 N1039q
    refine goV (T' := T1039) (g' := (mkF m 89 #[.val (.int p1), .val (.int p2), .val (.long q1), .second, .val (.int (0 : Int32)), .val (.long (8 : Int64)), .second, .val (.long (((p1.toInt64) * (8 : Int64)) * (8 : Int64))), .second, .val (.int (1 : Int32)), .val (.ref bu), .val (.int (Int32.ofNat n)), .unset, .unset] [(.ref bz)])) st1039 ?_
    have z1039 : n0 ≤ T1039.heap.size := Nat.le_trans z1037 K1039.1
    refine go (T' := T1039) (g' := (mkF m 91 #[.val (.int p1), .val (.int p2), .val (.long q1), .second, .val (.int (0 : Int32)), .val (.long (8 : Int64)), .second, .val (.long (((p1.toInt64) * (8 : Int64)) * (8 : Int64))), .second, .val (.int (1 : Int32)), .val (.ref bu), .val (.int (Int32.ofNat n)), .val (.ref bz), .unset] [])) (fun t kt => XS.astore X1039.here hx rfl (hb hby at_89) rfl rfl (l' := #[.val (.int p1), .val (.int p2), .val (.long q1), .second, .val (.int (0 : Int32)), .val (.long (8 : Int64)), .second, .val (.long (((p1.toInt64) * (8 : Int64)) * (8 : Int64))), .second, .val (.int (1 : Int32)), .val (.ref bu), .val (.int (Int32.ofNat n)), .val (.ref bz), .unset]) rfl kt) ?_
    refine go (T' := T1039) (g' := (mkF m 93 #[.val (.int p1), .val (.int p2), .val (.long q1), .second, .val (.int (0 : Int32)), .val (.long (8 : Int64)), .second, .val (.long (((p1.toInt64) * (8 : Int64)) * (8 : Int64))), .second, .val (.int (1 : Int32)), .val (.ref bu), .val (.int (Int32.ofNat n)), .val (.ref bz), .unset] [(.int (Int32.ofNat n))])) (fun t kt => XS.iload X1039.here hx rfl (hb hby at_91) rfl kt) ?_
    refine go (T' := T1039) (g' := (mkF m 95 #[.val (.int p1), .val (.int p2), .val (.long q1), .second, .val (.int (0 : Int32)), .val (.long (8 : Int64)), .second, .val (.long (((p1.toInt64) * (8 : Int64)) * (8 : Int64))), .second, .val (.int (1 : Int32)), .val (.ref bu), .val (.int (Int32.ofNat n)), .val (.ref bz), .unset] [(.int (0 : Int32)), (.int (Int32.ofNat n))])) (fun t kt => XS.iload X1039.here hx rfl (hb hby at_93) rfl kt) ?_
    obtain ⟨_, _, ⟨T1040, L1040, k1040, n1040⟩, -, X1040, ⟨Lc1040, hQ1040, l1040, y1040, z1040⟩, st1040⟩ := Jvm.LawKit.callS X1039 hx (y := (⟨"com/example/tallyward/tallyward/io/KeyFilter", "bytes", "(IZ)J"⟩ : MethodName)) hown (mvT hZ (hw _ (List.mem_of_getElem? (i := 2) rfl))) (mvT hZ (hw _ (List.mem_of_getElem? (i := 3) rfl))) (mvT hZ (hw _ (List.mem_of_getElem? (i := 4) rfl))) (mvT hZ (hw _ (List.mem_of_getElem? (i := 5) rfl))) (by decide) (backOf (W := 0) (rm1 l Z a0 hw [] (Int32.ofNat n) 0 T1039.heap n0 z1039) hZ (hw _ (List.mem_of_getElem? (i := 5) rfl)) (hw _ (List.mem_of_getElem? (i := 4) rfl)) (by decide) (by decide)) (g := (mkF m 95 #[.val (.int p1), .val (.int p2), .val (.long q1), .second, .val (.int (0 : Int32)), .val (.long (8 : Int64)), .second, .val (.long (((p1.toInt64) * (8 : Int64)) * (8 : Int64))), .second, .val (.int (1 : Int32)), .val (.ref bu), .val (.int (Int32.ofNat n)), .val (.ref bz), .unset] [(.int (0 : Int32)), (.int (Int32.ofNat n))])) rfl (by rw [hml]; rfl) (argsL := [(.int (Int32.ofNat n)), (.int (0 : Int32))]) (rest := []) (lenOf pd_6 rfl) rfl (by show 2 * 0 + _ ≤ _; exact Nat.le_of_eq rfl) (hb hby at_95) (fun _ _ => ⟨rfl, rfl, (by decide : 3 + 0 ≤ _), (by decide : 21 + 0 ≤ _)⟩)
    dsimp only [Pt.U, Pt.locs, Pt.cells, Pt.slots] at X1040 l1040 y1040 z1040 st1040 hQ1040
    subst l1040 y1040 z1040
    obtain ⟨rfl, N1040q, e1040⟩ := hQ1040
    have N1040 := Fr.app N1039 N1040q
    refine go (T' := T1040) (g' := (mkF m 98 #[.val (.int p1), .val (.int p2), .val (.long q1), .second, .val (.int (0 : Int32)), .val (.long (8 : Int64)), .second, .val (.long (((p1.toInt64) * (8 : Int64)) * (8 : Int64))), .second, .val (.int (1 : Int32)), .val (.ref bu), .val (.int (Int32.ofNat n)), .val (.ref bz), .unset] [(.long (own_by (Int32.ofNat n) 0))])) st1040 ?_
    refine go (T' := T1040) (g' := (mkF m 101 #[.val (.int p1), .val (.int p2), .val (.long q1), .second, .val (.int (0 : Int32)), .val (.long (8 : Int64)), .second, .val (.long (((p1.toInt64) * (8 : Int64)) * (8 : Int64))), .second, .val (.int (1 : Int32)), .val (.ref bu), .val (.int (Int32.ofNat n)), .val (.ref bz), .unset] [(.long (8 : Int64)), (.long (own_by (Int32.ofNat n) 0))])) (fun t kt => X1040.ldc2Long hx hown (mvT hZ (hw _ (List.mem_of_getElem? (i := 1) rfl))) (g := (mkF m 98 #[.val (.int p1), .val (.int p2), .val (.long q1), .second, .val (.int (0 : Int32)), .val (.long (8 : Int64)), .second, .val (.long (((p1.toInt64) * (8 : Int64)) * (8 : Int64))), .second, .val (.int (1 : Int32)), .val (.ref bu), .val (.int (Int32.ofNat n)), .val (.ref bz), .unset] [(.long (own_by (Int32.ofNat n) 0))])) rfl (hb hby at_98) _ kt) ?_
    refine go (T' := T1040) (g' := (mkF m 103 #[.val (.int p1), .val (.int p2), .val (.long q1), .second, .val (.int (0 : Int32)), .val (.long (8 : Int64)), .second, .val (.long (((p1.toInt64) * (8 : Int64)) * (8 : Int64))), .second, .val (.int (1 : Int32)), .val (.ref bu), .val (.int (Int32.ofNat n)), .val (.ref bz), .unset] [(.ref bz), (.long (8 : Int64)), (.long (own_by (Int32.ofNat n) 0))])) (fun t kt => XS.aload X1040.here hx rfl (hb hby at_101) rfl rfl kt) ?_
    refine go (T' := T1040) (g' := (mkF m 104 #[.val (.int p1), .val (.int p2), .val (.long q1), .second, .val (.int (0 : Int32)), .val (.long (8 : Int64)), .second, .val (.long (((p1.toInt64) * (8 : Int64)) * (8 : Int64))), .second, .val (.int (1 : Int32)), .val (.ref bu), .val (.int (Int32.ofNat n)), .val (.ref bz), .unset] [(.int (Int32.ofNat (8 * n))), (.long (8 : Int64)), (.long (own_by (Int32.ofNat n) 0))])) (fun t kt => own_len X1040 hx hZ e1040 Vz (g := (mkF m 103 #[.val (.int p1), .val (.int p2), .val (.long q1), .second, .val (.int (0 : Int32)), .val (.long (8 : Int64)), .second, .val (.long (((p1.toInt64) * (8 : Int64)) * (8 : Int64))), .second, .val (.int (1 : Int32)), .val (.ref bu), .val (.int (Int32.ofNat n)), .val (.ref bz), .unset] [(.ref bz), (.long (8 : Int64)), (.long (own_by (Int32.ofNat n) 0))])) rfl rfl (hb hby at_103) _ kt) ?_
    refine go (T' := T1040) (g' := (mkF m 105 #[.val (.int p1), .val (.int p2), .val (.long q1), .second, .val (.int (0 : Int32)), .val (.long (8 : Int64)), .second, .val (.long (((p1.toInt64) * (8 : Int64)) * (8 : Int64))), .second, .val (.int (1 : Int32)), .val (.ref bu), .val (.int (Int32.ofNat n)), .val (.ref bz), .unset] [(.long ((Int32.ofNat (8 * n)).toInt64)), (.long (8 : Int64)), (.long (own_by (Int32.ofNat n) 0))])) (fun t kt => XS.i2l X1040.here hx rfl (hb hby at_104) rfl kt) ?_
    refine go (T' := T1040) (g' := (mkF m 106 #[.val (.int p1), .val (.int p2), .val (.long q1), .second, .val (.int (0 : Int32)), .val (.long (8 : Int64)), .second, .val (.long (((p1.toInt64) * (8 : Int64)) * (8 : Int64))), .second, .val (.int (1 : Int32)), .val (.ref bu), .val (.int (Int32.ofNat n)), .val (.ref bz), .unset] [(.long ((8 : Int64) * ((Int32.ofNat (8 * n)).toInt64))), (.long (own_by (Int32.ofNat n) 0))])) (fun t kt => XS.lmul X1040.here hx rfl (hb hby at_105) rfl kt) ?_
    refine go (T' := T1040) (g' := (mkF m 107 #[.val (.int p1), .val (.int p2), .val (.long q1), .second, .val (.int (0 : Int32)), .val (.long (8 : Int64)), .second, .val (.long (((p1.toInt64) * (8 : Int64)) * (8 : Int64))), .second, .val (.int (1 : Int32)), .val (.ref bu), .val (.int (Int32.ofNat n)), .val (.ref bz), .unset] [(.int (lcmpW (own_by (Int32.ofNat n) 0) ((8 : Int64) * ((Int32.ofNat (8 * n)).toInt64))))])) (fun t kt => XS.lcmp X1040.here hx rfl (hb hby at_106) rfl kt) ?_
    refine go (T' := T1040) (g' := (mkF m 110 #[.val (.int p1), .val (.int p2), .val (.long q1), .second, .val (.int (0 : Int32)), .val (.long (8 : Int64)), .second, .val (.long (((p1.toInt64) * (8 : Int64)) * (8 : Int64))), .second, .val (.int (1 : Int32)), .val (.ref bu), .val (.int (Int32.ofNat n)), .val (.ref bz), .unset] [])) (fun t kt => XS.ifNo X1040.here hx rfl (hb hby at_107) rfl (own_l0 (by rcases hn with rfl | rfl <;> decide)).2 kt) ?_
    refine go (T' := T1040) (g' := (mkF m 111 #[.val (.int p1), .val (.int p2), .val (.long q1), .second, .val (.int (0 : Int32)), .val (.long (8 : Int64)), .second, .val (.long (((p1.toInt64) * (8 : Int64)) * (8 : Int64))), .second, .val (.int (1 : Int32)), .val (.ref bu), .val (.int (Int32.ofNat n)), .val (.ref bz), .unset] [(.int (1 : Int32))])) (fun t kt => XS.iconst X1040.here hx rfl (hb hby at_110) kt) ?_
    refine go (T' := T1040) (g' := (mkF m 115 #[.val (.int p1), .val (.int p2), .val (.long q1), .second, .val (.int (0 : Int32)), .val (.long (8 : Int64)), .second, .val (.long (((p1.toInt64) * (8 : Int64)) * (8 : Int64))), .second, .val (.int (1 : Int32)), .val (.ref bu), .val (.int (Int32.ofNat n)), .val (.ref bz), .unset] [(.int (1 : Int32))])) (fun t kt => XS.goto X1040.here hx rfl (pc0 := 111) (pc' := 115) rfl (hb hby at_111) (by decide) (by decide) kt) ?_
    refine go (T' := T1040) (g' := (mkF m 117 #[.val (.int p1), .val (.int p2), .val (.long q1), .second, .val (.int (0 : Int32)), .val (.long (8 : Int64)), .second, .val (.long (((p1.toInt64) * (8 : Int64)) * (8 : Int64))), .second, .val (.int (1 : Int32)), .val (.ref bu), .val (.int (Int32.ofNat n)), .val (.ref bz), .val (.int (1 : Int32))] [])) (fun t kt => XS.istore X1040.here hx rfl (hb hby at_115) rfl (l' := #[.val (.int p1), .val (.int p2), .val (.long q1), .second, .val (.int (0 : Int32)), .val (.long (8 : Int64)), .second, .val (.long (((p1.toInt64) * (8 : Int64)) * (8 : Int64))), .second, .val (.int (1 : Int32)), .val (.ref bu), .val (.int (Int32.ofNat n)), .val (.ref bz), .val (.int (1 : Int32))]) rfl kt) ?_
    refine go (T' := T1040) (g' := (mkF m 119 #[.val (.int p1), .val (.int p2), .val (.long q1), .second, .val (.int (0 : Int32)), .val (.long (8 : Int64)), .second, .val (.long (((p1.toInt64) * (8 : Int64)) * (8 : Int64))), .second, .val (.int (1 : Int32)), .val (.ref bu), .val (.int (Int32.ofNat n)), .val (.ref bz), .val (.int (1 : Int32))] [(.int (1 : Int32))])) (fun t kt => XS.iload X1040.here hx rfl (hb hby at_117) rfl kt) ?_
    refine go (T' := T1040) (g' := (mkF m 122 #[.val (.int p1), .val (.int p2), .val (.long q1), .second, .val (.int (0 : Int32)), .val (.long (8 : Int64)), .second, .val (.long (((p1.toInt64) * (8 : Int64)) * (8 : Int64))), .second, .val (.int (1 : Int32)), .val (.ref bu), .val (.int (Int32.ofNat n)), .val (.ref bz), .val (.int (1 : Int32))] [])) (fun t kt => XS.ifNo X1040.here hx rfl (hb hby at_119) rfl ((if0 _ _).trans (feq own_ne10).1) kt) ?_
    refine go (T' := T1040) (g' := (mkF m 124 #[.val (.int p1), .val (.int p2), .val (.long q1), .second, .val (.int (0 : Int32)), .val (.long (8 : Int64)), .second, .val (.long (((p1.toInt64) * (8 : Int64)) * (8 : Int64))), .second, .val (.int (1 : Int32)), .val (.ref bu), .val (.int (Int32.ofNat n)), .val (.ref bz), .val (.int (1 : Int32))] [(.int (1 : Int32))])) (fun t kt => XS.iload X1040.here hx rfl (hb hby at_122) rfl kt) ?_
    refine go (T' := T1040) (g' := (mkF m 127 #[.val (.int p1), .val (.int p2), .val (.long q1), .second, .val (.int (0 : Int32)), .val (.long (8 : Int64)), .second, .val (.long (((p1.toInt64) * (8 : Int64)) * (8 : Int64))), .second, .val (.int (1 : Int32)), .val (.ref bu), .val (.int (Int32.ofNat n)), .val (.ref bz), .val (.int (1 : Int32))] [])) (fun t kt => XS.ifNo X1040.here hx rfl (hb hby at_124) rfl ((if0 _ _).trans (feq own_ne10).1) kt) ?_
    refine go (T' := T1040) (g' := (mkF m 128 #[.val (.int p1), .val (.int p2), .val (.long q1), .second, .val (.int (0 : Int32)), .val (.long (8 : Int64)), .second, .val (.long (((p1.toInt64) * (8 : Int64)) * (8 : Int64))), .second, .val (.int (1 : Int32)), .val (.ref bu), .val (.int (Int32.ofNat n)), .val (.ref bz), .val (.int (1 : Int32))] [(.int (1 : Int32))])) (fun t kt => XS.iconst X1040.here hx rfl (hb hby at_127) kt) ?_
    refine go (T' := T1040) (g' := (mkF m 132 #[.val (.int p1), .val (.int p2), .val (.long q1), .second, .val (.int (0 : Int32)), .val (.long (8 : Int64)), .second, .val (.long (((p1.toInt64) * (8 : Int64)) * (8 : Int64))), .second, .val (.int (1 : Int32)), .val (.ref bu), .val (.int (Int32.ofNat n)), .val (.ref bz), .val (.int (1 : Int32))] [(.int (1 : Int32))])) (fun t kt => XS.goto X1040.here hx rfl (pc0 := 128) (pc' := 132) rfl (hb hby at_128) (by decide) (by decide) kt) ?_
    refine goRetN X1040 hx hlk (t := .boolean) Bd.returns (by simp) (hb hby at_132) ?_ (by decide) (by decide)
    rw [e1040]
    exact ⟨rfl, N1040⟩
  · refine go (T' := s₁) (g' := (mkF m 6 #[.val (.int p1), .val (.int p2), .val (.long q1), .second, .unset, .unset, .unset, .unset, .unset, .unset, .unset, .unset, .unset, .unset] [])) (fun t kt => XS.ifNo X0.here hx rfl (hb hby at_3) rfl ((if0 _ _).trans (feq hf).1) kt) ?_
    refine go (T' := s₁) (g' := (mkF m 7 #[.val (.int p1), .val (.int p2), .val (.long q1), .second, .unset, .unset, .unset, .unset, .unset, .unset, .unset, .unset, .unset, .unset] [(.int (1 : Int32))])) (fun t kt => XS.iconst X0.here hx rfl (hb hby at_6) kt) ?_
    refine go (T' := s₁) (g' := (mkF m 11 #[.val (.int p1), .val (.int p2), .val (.long q1), .second, .unset, .unset, .unset, .unset, .unset, .unset, .unset, .unset, .unset, .unset] [(.int (1 : Int32))])) (fun t kt => XS.goto X0.here hx rfl (pc0 := 7) (pc' := 11) rfl (hb hby at_7) (by decide) (by decide) kt) ?_
    refine go (T' := s₁) (g' := (mkF m 13 #[.val (.int p1), .val (.int p2), .val (.long q1), .second, .val (.int (1 : Int32)), .unset, .unset, .unset, .unset, .unset, .unset, .unset, .unset, .unset] [])) (fun t kt => XS.istore X0.here hx rfl (hb hby at_11) rfl (l' := #[.val (.int p1), .val (.int p2), .val (.long q1), .second, .val (.int (1 : Int32)), .unset, .unset, .unset, .unset, .unset, .unset, .unset, .unset, .unset]) rfl kt) ?_
    refine go (T' := s₁) (g' := (mkF m 15 #[.val (.int p1), .val (.int p2), .val (.long q1), .second, .val (.int (1 : Int32)), .unset, .unset, .unset, .unset, .unset, .unset, .unset, .unset, .unset] [(.int (1 : Int32))])) (fun t kt => XS.iload X0.here hx rfl (hb hby at_13) rfl kt) ?_
    refine go (T' := s₁) (g' := (mkF m 18 #[.val (.int p1), .val (.int p2), .val (.long q1), .second, .val (.int (1 : Int32)), .unset, .unset, .unset, .unset, .unset, .unset, .unset, .unset, .unset] [])) (fun t kt => XS.ifNo X0.here hx rfl (hb hby at_15) rfl ((if0 _ _).trans (feq own_ne10).1) kt) ?_
    refine go (T' := s₁) (g' := (mkF m 21 #[.val (.int p1), .val (.int p2), .val (.long q1), .second, .val (.int (1 : Int32)), .unset, .unset, .unset, .unset, .unset, .unset, .unset, .unset, .unset] [(.long (9 : Int64))])) (fun t kt => X0.ldc2Long hx hown (mvT hZ (hw _ (List.mem_of_getElem? (i := 0) rfl))) (g := (mkF m 18 #[.val (.int p1), .val (.int p2), .val (.long q1), .second, .val (.int (1 : Int32)), .unset, .unset, .unset, .unset, .unset, .unset, .unset, .unset, .unset] [])) rfl (hb hby at_18) _ kt) ?_
    refine go (T' := s₁) (g' := (mkF m 27 #[.val (.int p1), .val (.int p2), .val (.long q1), .second, .val (.int (1 : Int32)), .unset, .unset, .unset, .unset, .unset, .unset, .unset, .unset, .unset] [(.long (9 : Int64))])) (fun t kt => XS.goto X0.here hx rfl (pc0 := 21) (pc' := 27) rfl (hb hby at_21) (by decide) (by decide) kt) ?_
    refine go (T' := s₁) (g' := (mkF m 29 #[.val (.int p1), .val (.int p2), .val (.long q1), .second, .val (.int (1 : Int32)), .val (.long (9 : Int64)), .second, .unset, .unset, .unset, .unset, .unset, .unset, .unset] [])) (fun t kt => XS.lstore X0.here hx rfl (hb hby at_27) rfl (l' := #[.val (.int p1), .val (.int p2), .val (.long q1), .second, .val (.int (1 : Int32)), .val (.long (9 : Int64)), .second, .unset, .unset, .unset, .unset, .unset, .unset, .unset]) rfl kt) ?_
    refine go (T' := s₁) (g' := (mkF m 30 #[.val (.int p1), .val (.int p2), .val (.long q1), .second, .val (.int (1 : Int32)), .val (.long (9 : Int64)), .second, .unset, .unset, .unset, .unset, .unset, .unset, .unset] [(.int p1)])) (fun t kt => XS.iloadN X0.here hx rfl (hb hby at_29) rfl kt) ?_
    refine go (T' := s₁) (g' := (mkF m 31 #[.val (.int p1), .val (.int p2), .val (.long q1), .second, .val (.int (1 : Int32)), .val (.long (9 : Int64)), .second, .unset, .unset, .unset, .unset, .unset, .unset, .unset] [(.long (p1.toInt64))])) (fun t kt => XS.i2l X0.here hx rfl (hb hby at_30) rfl kt) ?_
    refine go (T' := s₁) (g' := (mkF m 33 #[.val (.int p1), .val (.int p2), .val (.long q1), .second, .val (.int (1 : Int32)), .val (.long (9 : Int64)), .second, .unset, .unset, .unset, .unset, .unset, .unset, .unset] [(.long (9 : Int64)), (.long (p1.toInt64))])) (fun t kt => XS.lload X0.here hx rfl (hb hby at_31) rfl kt) ?_
    refine go (T' := s₁) (g' := (mkF m 34 #[.val (.int p1), .val (.int p2), .val (.long q1), .second, .val (.int (1 : Int32)), .val (.long (9 : Int64)), .second, .unset, .unset, .unset, .unset, .unset, .unset, .unset] [(.long ((p1.toInt64) * (9 : Int64)))])) (fun t kt => XS.lmul X0.here hx rfl (hb hby at_33) rfl kt) ?_
    refine go (T' := s₁) (g' := (mkF m 37 #[.val (.int p1), .val (.int p2), .val (.long q1), .second, .val (.int (1 : Int32)), .val (.long (9 : Int64)), .second, .unset, .unset, .unset, .unset, .unset, .unset, .unset] [(.long (8 : Int64)), (.long ((p1.toInt64) * (9 : Int64)))])) (fun t kt => X0.ldc2Long hx hown (mvT hZ (hw _ (List.mem_of_getElem? (i := 1) rfl))) (g := (mkF m 34 #[.val (.int p1), .val (.int p2), .val (.long q1), .second, .val (.int (1 : Int32)), .val (.long (9 : Int64)), .second, .unset, .unset, .unset, .unset, .unset, .unset, .unset] [(.long ((p1.toInt64) * (9 : Int64)))])) rfl (hb hby at_34) _ kt) ?_
    refine go (T' := s₁) (g' := (mkF m 38 #[.val (.int p1), .val (.int p2), .val (.long q1), .second, .val (.int (1 : Int32)), .val (.long (9 : Int64)), .second, .unset, .unset, .unset, .unset, .unset, .unset, .unset] [(.long (((p1.toInt64) * (9 : Int64)) * (8 : Int64)))])) (fun t kt => XS.lmul X0.here hx rfl (hb hby at_37) rfl kt) ?_
    refine go (T' := s₁) (g' := (mkF m 40 #[.val (.int p1), .val (.int p2), .val (.long q1), .second, .val (.int (1 : Int32)), .val (.long (9 : Int64)), .second, .val (.long (((p1.toInt64) * (9 : Int64)) * (8 : Int64))), .second, .unset, .unset, .unset, .unset, .unset] [])) (fun t kt => XS.lstore X0.here hx rfl (hb hby at_38) rfl (l' := #[.val (.int p1), .val (.int p2), .val (.long q1), .second, .val (.int (1 : Int32)), .val (.long (9 : Int64)), .second, .val (.long (((p1.toInt64) * (9 : Int64)) * (8 : Int64))), .second, .unset, .unset, .unset, .unset, .unset]) rfl kt) ?_
    refine go (T' := s₁) (g' := (mkF m 41 #[.val (.int p1), .val (.int p2), .val (.long q1), .second, .val (.int (1 : Int32)), .val (.long (9 : Int64)), .second, .val (.long (((p1.toInt64) * (9 : Int64)) * (8 : Int64))), .second, .unset, .unset, .unset, .unset, .unset] [(.int p1)])) (fun t kt => XS.iloadN X0.here hx rfl (hb hby at_40) rfl kt) ?_
    refine go (T' := s₁) (g' := (mkF m 43 #[.val (.int p1), .val (.int p2), .val (.long q1), .second, .val (.int (1 : Int32)), .val (.long (9 : Int64)), .second, .val (.long (((p1.toInt64) * (9 : Int64)) * (8 : Int64))), .second, .unset, .unset, .unset, .unset, .unset] [(.int (1 : Int32)), (.int p1)])) (fun t kt => XS.iload X0.here hx rfl (hb hby at_41) rfl kt) ?_
    obtain ⟨_, _, ⟨T1041, L1041, k1041, n1041⟩, -, X1041, ⟨Lc1041, hQ1041, l1041, y1041, z1041⟩, st1041⟩ := Jvm.LawKit.callS X0 hx (y := (⟨"com/example/tallyward/tallyward/io/KeyFilter", "bytes", "(IZ)J"⟩ : MethodName)) hown (mvT hZ (hw _ (List.mem_of_getElem? (i := 2) rfl))) (mvT hZ (hw _ (List.mem_of_getElem? (i := 3) rfl))) (mvT hZ (hw _ (List.mem_of_getElem? (i := 4) rfl))) (mvT hZ (hw _ (List.mem_of_getElem? (i := 5) rfl))) (by decide) (backOf (W := 0) (rm1 l Z a0 hw [] p1 1 h0 n0 Z0) hZ (hw _ (List.mem_of_getElem? (i := 5) rfl)) (hw _ (List.mem_of_getElem? (i := 4) rfl)) (by decide) (by decide)) (g := (mkF m 43 #[.val (.int p1), .val (.int p2), .val (.long q1), .second, .val (.int (1 : Int32)), .val (.long (9 : Int64)), .second, .val (.long (((p1.toInt64) * (9 : Int64)) * (8 : Int64))), .second, .unset, .unset, .unset, .unset, .unset] [(.int (1 : Int32)), (.int p1)])) rfl (by rw [hml]; rfl) (argsL := [(.int p1), (.int (1 : Int32))]) (rest := []) (lenOf pd_6 rfl) rfl (by show 2 * 0 + _ ≤ _; exact Nat.le_of_eq rfl) (hb hby at_43) (fun _ _ => ⟨rfl, e0, (by decide : 0 + 0 ≤ _), (by decide : 0 + 0 ≤ _)⟩)
    dsimp only [Pt.U, Pt.locs, Pt.cells, Pt.slots] at X1041 l1041 y1041 z1041 st1041 hQ1041
    subst l1041 y1041 z1041
    obtain ⟨rfl, N1041q, e1041⟩ := hQ1041
    have N1041 := Fr.app N0 N1041q
    refine go (T' := T1041) (g' := (mkF m 46 #[.val (.int p1), .val (.int p2), .val (.long q1), .second, .val (.int (1 : Int32)), .val (.long (9 : Int64)), .second, .val (.long (((p1.toInt64) * (9 : Int64)) * (8 : Int64))), .second, .unset, .unset, .unset, .unset, .unset] [(.long (own_by p1 1))])) st1041 ?_
    refine go (T' := T1041) (g' := (mkF m 48 #[.val (.int p1), .val (.int p2), .val (.long q1), .second, .val (.int (1 : Int32)), .val (.long (9 : Int64)), .second, .val (.long (((p1.toInt64) * (9 : Int64)) * (8 : Int64))), .second, .unset, .unset, .unset, .unset, .unset] [(.long (((p1.toInt64) * (9 : Int64)) * (8 : Int64))), (.long (own_by p1 1))])) (fun t kt => XS.lload X1041.here hx rfl (hb hby at_46) rfl kt) ?_
    refine go (T' := T1041) (g' := (mkF m 49 #[.val (.int p1), .val (.int p2), .val (.long q1), .second, .val (.int (1 : Int32)), .val (.long (9 : Int64)), .second, .val (.long (((p1.toInt64) * (9 : Int64)) * (8 : Int64))), .second, .unset, .unset, .unset, .unset, .unset] [(.int (lcmpW (own_by p1 1) (((p1.toInt64) * (9 : Int64)) * (8 : Int64))))])) (fun t kt => XS.lcmp X1041.here hx rfl (hb hby at_48) rfl kt) ?_
    refine go (T' := T1041) (g' := (mkF m 52 #[.val (.int p1), .val (.int p2), .val (.long q1), .second, .val (.int (1 : Int32)), .val (.long (9 : Int64)), .second, .val (.long (((p1.toInt64) * (9 : Int64)) * (8 : Int64))), .second, .unset, .unset, .unset, .unset, .unset] [])) (fun t kt => XS.ifNo X1041.here hx rfl (hb hby at_49) rfl (own_l0 (own_by1 p1)).2 kt) ?_
    refine go (T' := T1041) (g' := (mkF m 53 #[.val (.int p1), .val (.int p2), .val (.long q1), .second, .val (.int (1 : Int32)), .val (.long (9 : Int64)), .second, .val (.long (((p1.toInt64) * (9 : Int64)) * (8 : Int64))), .second, .unset, .unset, .unset, .unset, .unset] [(.int (1 : Int32))])) (fun t kt => XS.iconst X1041.here hx rfl (hb hby at_52) kt) ?_
    refine go (T' := T1041) (g' := (mkF m 57 #[.val (.int p1), .val (.int p2), .val (.long q1), .second, .val (.int (1 : Int32)), .val (.long (9 : Int64)), .second, .val (.long (((p1.toInt64) * (9 : Int64)) * (8 : Int64))), .second, .unset, .unset, .unset, .unset, .unset] [(.int (1 : Int32))])) (fun t kt => XS.goto X1041.here hx rfl (pc0 := 53) (pc' := 57) rfl (hb hby at_53) (by decide) (by decide) kt) ?_
    refine go (T' := T1041) (g' := (mkF m 59 #[.val (.int p1), .val (.int p2), .val (.long q1), .second, .val (.int (1 : Int32)), .val (.long (9 : Int64)), .second, .val (.long (((p1.toInt64) * (9 : Int64)) * (8 : Int64))), .second, .val (.int (1 : Int32)), .unset, .unset, .unset, .unset] [])) (fun t kt => XS.istore X1041.here hx rfl (hb hby at_57) rfl (l' := #[.val (.int p1), .val (.int p2), .val (.long q1), .second, .val (.int (1 : Int32)), .val (.long (9 : Int64)), .second, .val (.long (((p1.toInt64) * (9 : Int64)) * (8 : Int64))), .second, .val (.int (1 : Int32)), .unset, .unset, .unset, .unset]) rfl kt) ?_
    obtain ⟨T1042, h1042, X1042, e1042, E1042, A1042, D1042, -, st1042⟩ := newO X1041 hx hZ hown (hw _ (List.mem_of_getElem? (i := 6) rfl)) (hw _ (List.mem_of_getElem? (i := 7) rfl)) (hw _ (List.mem_of_getElem? (i := 8) rfl)) e1041 (g := (mkF m 59 #[.val (.int p1), .val (.int p2), .val (.long q1), .second, .val (.int (1 : Int32)), .val (.long (9 : Int64)), .second, .val (.long (((p1.toInt64) * (9 : Int64)) * (8 : Int64))), .second, .val (.int (1 : Int32)), .unset, .unset, .unset, .unset] [])) rfl (hb hby at_59) (by decide) (by decide)
    obtain ⟨bu, g1042⟩ : ∃ z, z = h0.size := ⟨_, rfl⟩
    rw [← g1042] at A1042 D1042 st1042
    have g_bu : n0 ≤ bu := Nat.le_trans Z0 (Nat.le_of_eq g1042.symm)
    have z1042 : n0 ≤ h1042.size := Nat.le_trans Z0 E1042.1
    have F_words_bu : Fld Z h1042 bu "com/example/tallyward/tallyward/io/KeyFilter$Building" "words" "[J" .null := D1042 (Or.inr (hw _ (List.mem_of_getElem? (i := 33) rfl))) (ty := (.array .long)) (by decide)
    have F_blocks_bu : Fld Z h1042 bu "com/example/tallyward/tallyward/io/KeyFilter$Building" "blocks" "Lcom/example/tallyward/tallyward/io/KeyFilter$Blocks;" .null := D1042 (Or.inr (hw _ (List.mem_of_getElem? (i := 48) rfl))) (ty := (.object "com/example/tallyward/tallyward/io/KeyFilter$Blocks")) (by decide)
    refine go (T' := T1042) (g' := (mkF m 62 #[.val (.int p1), .val (.int p2), .val (.long q1), .second, .val (.int (1 : Int32)), .val (.long (9 : Int64)), .second, .val (.long (((p1.toInt64) * (9 : Int64)) * (8 : Int64))), .second, .val (.int (1 : Int32)), .unset, .unset, .unset, .unset] [(.ref bu)])) st1042 ?_
    refine go (T' := T1042) (g' := (mkF m 63 #[.val (.int p1), .val (.int p2), .val (.long q1), .second, .val (.int (1 : Int32)), .val (.long (9 : Int64)), .second, .val (.long (((p1.toInt64) * (9 : Int64)) * (8 : Int64))), .second, .val (.int (1 : Int32)), .unset, .unset, .unset, .unset] [(.ref bu), (.ref bu)])) (fun t kt => XS.dup X1042.here hx rfl (hb hby at_62) rfl rfl kt) ?_
    refine go (T' := T1042) (g' := (mkF m 64 #[.val (.int p1), .val (.int p2), .val (.long q1), .second, .val (.int (1 : Int32)), .val (.long (9 : Int64)), .second, .val (.long (((p1.toInt64) * (9 : Int64)) * (8 : Int64))), .second, .val (.int (1 : Int32)), .unset, .unset, .unset, .unset] [(.long q1), (.ref bu), (.ref bu)])) (fun t kt => XS.lloadN X1042.here hx rfl (hb hby at_63) rfl kt) ?_
    refine go (T' := T1042) (g' := (mkF m 67 #[.val (.int p1), .val (.int p2), .val (.long q1), .second, .val (.int (1 : Int32)), .val (.long (9 : Int64)), .second, .val (.long (((p1.toInt64) * (9 : Int64)) * (8 : Int64))), .second, .val (.int (1 : Int32)), .unset, .unset, .unset, .unset] [(.long (31 : Int64)), (.long q1), (.ref bu), (.ref bu)])) (fun t kt => X1042.ldc2Long hx hown (mvT hZ (hw _ (List.mem_of_getElem? (i := 9) rfl))) (g := (mkF m 64 #[.val (.int p1), .val (.int p2), .val (.long q1), .second, .val (.int (1 : Int32)), .val (.long (9 : Int64)), .second, .val (.long (((p1.toInt64) * (9 : Int64)) * (8 : Int64))), .second, .val (.int (1 : Int32)), .unset, .unset, .unset, .unset] [(.long q1), (.ref bu), (.ref bu)])) rfl (hb hby at_64) _ kt) ?_
    refine go (T' := T1042) (g' := (mkF m 68 #[.val (.int p1), .val (.int p2), .val (.long q1), .second, .val (.int (1 : Int32)), .val (.long (9 : Int64)), .second, .val (.long (((p1.toInt64) * (9 : Int64)) * (8 : Int64))), .second, .val (.int (1 : Int32)), .unset, .unset, .unset, .unset] [(.long (q1 &&& (31 : Int64))), (.ref bu), (.ref bu)])) (fun t kt => XS.land X1042.here hx rfl (hb hby at_67) rfl kt) ?_
    refine go (T' := T1042) (g' := (mkF m 69 #[.val (.int p1), .val (.int p2), .val (.long q1), .second, .val (.int (1 : Int32)), .val (.long (9 : Int64)), .second, .val (.long (((p1.toInt64) * (9 : Int64)) * (8 : Int64))), .second, .val (.int (1 : Int32)), .unset, .unset, .unset, .unset] [(.long (0 : Int64)), (.long (q1 &&& (31 : Int64))), (.ref bu), (.ref bu)])) (fun t kt => XS.lconst X1042.here hx rfl (hb hby at_68) kt) ?_
    refine go (T' := T1042) (g' := (mkF m 70 #[.val (.int p1), .val (.int p2), .val (.long q1), .second, .val (.int (1 : Int32)), .val (.long (9 : Int64)), .second, .val (.long (((p1.toInt64) * (9 : Int64)) * (8 : Int64))), .second, .val (.int (1 : Int32)), .unset, .unset, .unset, .unset] [(.long (0 : Int64)), (.long (0 : Int64)), (.long (q1 &&& (31 : Int64))), (.ref bu), (.ref bu)])) (fun t kt => XS.lconst X1042.here hx rfl (hb hby at_69) kt) ?_
    obtain ⟨_, _, ⟨T1043, L1043, k1043, n1043⟩, -, X1043, ⟨Lc1043, hQ1043, l1043, y1043, z1043⟩, st1043⟩ := X1042.specialBack hx (y := (⟨"com/example/tallyward/tallyward/io/KeyFilter$Building", "<init>", "(JJJ)V"⟩ : MethodName)) rfl hown (mvT hZ (hw _ (List.mem_of_getElem? (i := 10) rfl))) (mvT hZ (hw _ (List.mem_of_getElem? (i := 11) rfl))) (mvT hZ (hw _ (List.mem_of_getElem? (i := 12) rfl))) (by decide) (backOf (W := 1) (rm2 l Z a0 hw [] bu (q1 &&& 31) 0 0 n h1042 n0 z1042 g_bu A1042 F_words_bu F_blocks_bu rfl rfl hr hb1 hn) hZ (hw _ (List.mem_of_getElem? (i := 12) rfl)) (hw _ (List.mem_of_getElem? (i := 8) rfl)) (by decide) (by decide)) (g := (mkF m 70 #[.val (.int p1), .val (.int p2), .val (.long q1), .second, .val (.int (1 : Int32)), .val (.long (9 : Int64)), .second, .val (.long (((p1.toInt64) * (9 : Int64)) * (8 : Int64))), .second, .val (.int (1 : Int32)), .unset, .unset, .unset, .unset] [(.long (0 : Int64)), (.long (0 : Int64)), (.long (q1 &&& (31 : Int64))), (.ref bu), (.ref bu)])) rfl (by rw [hml]; rfl) (Steps.refl _) (a := bu) (argsL := [(.long (q1 &&& (31 : Int64))), (.long (0 : Int64)), (.long (0 : Int64))]) (rest := [(.ref bu)]) (lenOf pd_7 rfl) rfl (by show 2 * 0 + _ ≤ _; exact Nat.le_of_eq rfl) (hb hby at_70) (fun _ _ => ⟨rfl, e1042, (by decide : 1 + 2 ≤ _), (by decide : 2 + 19 ≤ _)⟩)
    dsimp only [Pt.U, Pt.locs, Pt.cells, Pt.slots] at X1043 l1043 y1043 z1043 st1043 hQ1043
    subst l1043 y1043 z1043
    obtain ⟨rfl, N1043q, K1043, bw, bb, nbw, nbb, Fw, Vw, Fb, Fc⟩ := hQ1043
    have N1043 := Fr.app N1041 N1043q
    refine goV (T' := T1043) (g' := (mkF m 73 #[.val (.int p1), .val (.int p2), .val (.long q1), .second, .val (.int (1 : Int32)), .val (.long (9 : Int64)), .second, .val (.long (((p1.toInt64) * (9 : Int64)) * (8 : Int64))), .second, .val (.int (1 : Int32)), .unset, .unset, .unset, .unset] [(.ref bu)])) st1043 ?_
    have z1043 : n0 ≤ T1043.heap.size := Nat.le_trans z1042 K1043.1
    have fE_bu_1043 : Exa Z T1043.heap bu "com/example/tallyward/tallyward/io/KeyFilter$Building" := A1042.keep K1043
    refine go (T' := T1043) (g' := (mkF m 75 #[.val (.int p1), .val (.int p2), .val (.long q1), .second, .val (.int (1 : Int32)), .val (.long (9 : Int64)), .second, .val (.long (((p1.toInt64) * (9 : Int64)) * (8 : Int64))), .second, .val (.int (1 : Int32)), .val (.ref bu), .unset, .unset, .unset] [])) (fun t kt => XS.astore X1043.here hx rfl (hb hby at_73) rfl rfl (l' := #[.val (.int p1), .val (.int p2), .val (.long q1), .second, .val (.int (1 : Int32)), .val (.long (9 : Int64)), .second, .val (.long (((p1.toInt64) * (9 : Int64)) * (8 : Int64))), .second, .val (.int (1 : Int32)), .val (.ref bu), .unset, .unset, .unset]) rfl kt) ?_
    refine go (T' := T1043) (g' := (mkF m 77 #[.val (.int p1), .val (.int p2), .val (.long q1), .second, .val (.int (1 : Int32)), .val (.long (9 : Int64)), .second, .val (.long (((p1.toInt64) * (9 : Int64)) * (8 : Int64))), .second, .val (.int (1 : Int32)), .val (.ref bu), .unset, .unset, .unset] [(.ref bu)])) (fun t kt => XS.aload X1043.here hx rfl (hb hby at_75) rfl rfl kt) ?_
    obtain ⟨cq1044, kq1044, q1044a, q1044b, q1044c⟩ := isOf hZ rfl fE_bu_1043
    obtain ⟨_, _, ⟨T1044, L1044, k1044, n1044⟩, -, X1044, ⟨Lc1044, hQ1044, l1044, y1044, z1044⟩, st1044⟩ := X1043.virtualBack hx (y := (⟨"com/example/tallyward/tallyward/io/KeyFilter$Building", "blocks", "()I"⟩ : MethodName)) (z := (⟨"com/example/tallyward/tallyward/io/KeyFilter$Building", "blocks", "()I"⟩ : MethodName)) hown (mvT hZ (hw _ (List.mem_of_getElem? (i := 49) rfl))) (mvT hZ (hw _ (List.mem_of_getElem? (i := 50) rfl))) (notFace_of_selects (args := #[]) (mvT hZ (hw _ (List.mem_of_getElem? (i := 52) rfl)))) (mvT hZ (hw _ (List.mem_of_getElem? (i := 52) rfl))) (mvT hZ (hw _ (List.mem_of_getElem? (i := 51) rfl))) (by decide) (backOf (W := 0) (rm9 l Z a0 hw [] bu bb n T1043.heap n0 z1043 Fb Fc) hZ (hw _ (List.mem_of_getElem? (i := 53) rfl)) (hw _ (List.mem_of_getElem? (i := 8) rfl)) (by decide) (by decide)) q1044a q1044c (g := (mkF m 77 #[.val (.int p1), .val (.int p2), .val (.long q1), .second, .val (.int (1 : Int32)), .val (.long (9 : Int64)), .second, .val (.long (((p1.toInt64) * (9 : Int64)) * (8 : Int64))), .second, .val (.int (1 : Int32)), .val (.ref bu), .unset, .unset, .unset] [(.ref bu)])) rfl (by rw [hml]; rfl) (Steps.refl _) (argsL := []) (rest := []) (lenOf pd_8 rfl) rfl (by show 2 * 0 + _ ≤ _; exact Nat.le_of_eq rfl) (hb hby at_77) (fun _ _ => ⟨rfl, rfl, (by decide : 3 + 0 ≤ _), (by decide : 21 + 0 ≤ _)⟩)
    dsimp only [Pt.U, Pt.locs, Pt.cells, Pt.slots] at X1044 l1044 y1044 z1044 st1044 hQ1044
    subst l1044 y1044 z1044
    obtain ⟨rfl, N1044q, e1044⟩ := hQ1044
    have N1044 := Fr.app N1043 N1044q
    refine goV (T' := T1044) (g' := (mkF m 80 #[.val (.int p1), .val (.int p2), .val (.long q1), .second, .val (.int (1 : Int32)), .val (.long (9 : Int64)), .second, .val (.long (((p1.toInt64) * (9 : Int64)) * (8 : Int64))), .second, .val (.int (1 : Int32)), .val (.ref bu), .unset, .unset, .unset] [(.int (Int32.ofNat n))])) st1044 ?_
    refine go (T' := T1044) (g' := (mkF m 82 #[.val (.int p1), .val (.int p2), .val (.long q1), .second, .val (.int (1 : Int32)), .val (.long (9 : Int64)), .second, .val (.long (((p1.toInt64) * (9 : Int64)) * (8 : Int64))), .second, .val (.int (1 : Int32)), .val (.ref bu), .val (.int (Int32.ofNat n)), .unset, .unset] [])) (fun t kt => XS.istore X1044.here hx rfl (hb hby at_80) rfl (l' := #[.val (.int p1), .val (.int p2), .val (.long q1), .second, .val (.int (1 : Int32)), .val (.long (9 : Int64)), .second, .val (.long (((p1.toInt64) * (9 : Int64)) * (8 : Int64))), .second, .val (.int (1 : Int32)), .val (.ref bu), .val (.int (Int32.ofNat n)), .unset, .unset]) rfl kt) ?_
    refine go (T' := T1044) (g' := (mkF m 84 #[.val (.int p1), .val (.int p2), .val (.long q1), .second, .val (.int (1 : Int32)), .val (.long (9 : Int64)), .second, .val (.long (((p1.toInt64) * (9 : Int64)) * (8 : Int64))), .second, .val (.int (1 : Int32)), .val (.ref bu), .val (.int (Int32.ofNat n)), .unset, .unset] [(.ref bu)])) (fun t kt => XS.aload X1044.here hx rfl (hb hby at_82) rfl rfl kt) ?_
    refine go (T' := T1044) (g' := (mkF m 86 #[.val (.int p1), .val (.int p2), .val (.long q1), .second, .val (.int (1 : Int32)), .val (.long (9 : Int64)), .second, .val (.long (((p1.toInt64) * (9 : Int64)) * (8 : Int64))), .second, .val (.int (1 : Int32)), .val (.ref bu), .val (.int (Int32.ofNat n)), .unset, .unset] [(.int (1 : Int32)), (.ref bu)])) (fun t kt => XS.iload X1044.here hx rfl (hb hby at_84) rfl kt) ?_
    obtain ⟨cq1045, kq1045, q1045a, q1045b, q1045c⟩ := isOf hZ e1044 fE_bu_1043
    obtain ⟨_, _, ⟨T1045, L1045, k1045, n1045⟩, -, X1045, ⟨Lc1045, hQ1045, l1045, y1045, z1045⟩, st1045⟩ := X1044.virtualBack hx (y := (⟨"com/example/tallyward/tallyward/io/KeyFilter$Building", "words", "(Z)[J"⟩ : MethodName)) (z := (⟨"com/example/tallyward/tallyward/io/KeyFilter$Building", "words", "(Z)[J"⟩ : MethodName)) hown (mvT hZ (hw _ (List.mem_of_getElem? (i := 55) rfl))) (mvT hZ (hw _ (List.mem_of_getElem? (i := 56) rfl))) (notFace_of_selects (args := #[]) (mvT hZ (hw _ (List.mem_of_getElem? (i := 58) rfl)))) (mvT hZ (hw _ (List.mem_of_getElem? (i := 58) rfl))) (mvT hZ (hw _ (List.mem_of_getElem? (i := 57) rfl))) (by decide) (backOf (W := 0) (rm_w1 l Z a0 hw [] bu 1 bw bb n T1043.heap n0 z1043 rfl Fw Vw Fb Fc hn) hZ (hw _ (List.mem_of_getElem? (i := 59) rfl)) (hw _ (List.mem_of_getElem? (i := 8) rfl)) (by decide) (by decide)) q1045a q1045c (g := (mkF m 86 #[.val (.int p1), .val (.int p2), .val (.long q1), .second, .val (.int (1 : Int32)), .val (.long (9 : Int64)), .second, .val (.long (((p1.toInt64) * (9 : Int64)) * (8 : Int64))), .second, .val (.int (1 : Int32)), .val (.ref bu), .val (.int (Int32.ofNat n)), .unset, .unset] [(.int (1 : Int32)), (.ref bu)])) rfl (by rw [hml]; rfl) (Steps.refl _) (argsL := [(.int (1 : Int32))]) (rest := []) (lenOf pd_9 rfl) rfl (by show 2 * 0 + _ ≤ _; exact Nat.le_of_eq rfl) (hb hby at_86) (fun _ _ => ⟨rfl, e1044, (by decide : 3 + 1 ≤ _), (by decide : 21 + 18 ≤ _)⟩)
    dsimp only [Pt.U, Pt.locs, Pt.cells, Pt.slots] at X1045 l1045 y1045 z1045 st1045 hQ1045
    subst l1045 y1045 z1045
    obtain ⟨bz, fz, rfl, N1045q, K1045, Vz⟩ := hQ1045
    have N1045 := Fr.app N1044 N1045q
    refine goV (T' := T1045) (g' := (mkF m 89 #[.val (.int p1), .val (.int p2), .val (.long q1), .second, .val (.int (1 : Int32)), .val (.long (9 : Int64)), .second, .val (.long (((p1.toInt64) * (9 : Int64)) * (8 : Int64))), .second, .val (.int (1 : Int32)), .val (.ref bu), .val (.int (Int32.ofNat n)), .unset, .unset] [(.ref bz)])) st1045 ?_
    have z1045 : n0 ≤ T1045.heap.size := Nat.le_trans z1043 K1045.1
    refine go (T' := T1045) (g' := (mkF m 91 #[.val (.int p1), .val (.int p2), .val (.long q1), .second, .val (.int (1 : Int32)), .val (.long (9 : Int64)), .second, .val (.long (((p1.toInt64) * (9 : Int64)) * (8 : Int64))), .second, .val (.int (1 : Int32)), .val (.ref bu), .val (.int (Int32.ofNat n)), .val (.ref bz), .unset] [])) (fun t kt => XS.astore X1045.here hx rfl (hb hby at_89) rfl rfl (l' := #[.val (.int p1), .val (.int p2), .val (.long q1), .second, .val (.int (1 : Int32)), .val (.long (9 : Int64)), .second, .val (.long (((p1.toInt64) * (9 : Int64)) * (8 : Int64))), .second, .val (.int (1 : Int32)), .val (.ref bu), .val (.int (Int32.ofNat n)), .val (.ref bz), .unset]) rfl kt) ?_
    refine go (T' := T1045) (g' := (mkF m 93 #[.val (.int p1), .val (.int p2), .val (.long q1), .second, .val (.int (1 : Int32)), .val (.long (9 : Int64)), .second, .val (.long (((p1.toInt64) * (9 : Int64)) * (8 : Int64))), .second, .val (.int (1 : Int32)), .val (.ref bu), .val (.int (Int32.ofNat n)), .val (.ref bz), .unset] [(.int (Int32.ofNat n))])) (fun t kt => XS.iload X1045.here hx rfl (hb hby at_91) rfl kt) ?_
    refine go (T' := T1045) (g' := (mkF m 95 #[.val (.int p1), .val (.int p2), .val (.long q1), .second, .val (.int (1 : Int32)), .val (.long (9 : Int64)), .second, .val (.long (((p1.toInt64) * (9 : Int64)) * (8 : Int64))), .second, .val (.int (1 : Int32)), .val (.ref bu), .val (.int (Int32.ofNat n)), .val (.ref bz), .unset] [(.int (1 : Int32)), (.int (Int32.ofNat n))])) (fun t kt => XS.iload X1045.here hx rfl (hb hby at_93) rfl kt) ?_
    obtain ⟨_, _, ⟨T1046, L1046, k1046, n1046⟩, -, X1046, ⟨Lc1046, hQ1046, l1046, y1046, z1046⟩, st1046⟩ := Jvm.LawKit.callS X1045 hx (y := (⟨"com/example/tallyward/tallyward/io/KeyFilter", "bytes", "(IZ)J"⟩ : MethodName)) hown (mvT hZ (hw _ (List.mem_of_getElem? (i := 2) rfl))) (mvT hZ (hw _ (List.mem_of_getElem? (i := 3) rfl))) (mvT hZ (hw _ (List.mem_of_getElem? (i := 4) rfl))) (mvT hZ (hw _ (List.mem_of_getElem? (i := 5) rfl))) (by decide) (backOf (W := 0) (rm1 l Z a0 hw [] (Int32.ofNat n) 1 T1045.heap n0 z1045) hZ (hw _ (List.mem_of_getElem? (i := 5) rfl)) (hw _ (List.mem_of_getElem? (i := 4) rfl)) (by decide) (by decide)) (g := (mkF m 95 #[.val (.int p1), .val (.int p2), .val (.long q1), .second, .val (.int (1 : Int32)), .val (.long (9 : Int64)), .second, .val (.long (((p1.toInt64) * (9 : Int64)) * (8 : Int64))), .second, .val (.int (1 : Int32)), .val (.ref bu), .val (.int (Int32.ofNat n)), .val (.ref bz), .unset] [(.int (1 : Int32)), (.int (Int32.ofNat n))])) rfl (by rw [hml]; rfl) (argsL := [(.int (Int32.ofNat n)), (.int (1 : Int32))]) (rest := []) (lenOf pd_6 rfl) rfl (by show 2 * 0 + _ ≤ _; exact Nat.le_of_eq rfl) (hb hby at_95) (fun _ _ => ⟨rfl, rfl, (by decide : 4 + 0 ≤ _), (by decide : 39 + 0 ≤ _)⟩)
    dsimp only [Pt.U, Pt.locs, Pt.cells, Pt.slots] at X1046 l1046 y1046 z1046 st1046 hQ1046
    subst l1046 y1046 z1046
    obtain ⟨rfl, N1046q, e1046⟩ := hQ1046
    have N1046 := Fr.app N1045 N1046q
    refine go (T' := T1046) (g' := (mkF m 98 #[.val (.int p1), .val (.int p2), .val (.long q1), .second, .val (.int (1 : Int32)), .val (.long (9 : Int64)), .second, .val (.long (((p1.toInt64) * (9 : Int64)) * (8 : Int64))), .second, .val (.int (1 : Int32)), .val (.ref bu), .val (.int (Int32.ofNat n)), .val (.ref bz), .unset] [(.long (own_by (Int32.ofNat n) 1))])) st1046 ?_
    refine go (T' := T1046) (g' := (mkF m 101 #[.val (.int p1), .val (.int p2), .val (.long q1), .second, .val (.int (1 : Int32)), .val (.long (9 : Int64)), .second, .val (.long (((p1.toInt64) * (9 : Int64)) * (8 : Int64))), .second, .val (.int (1 : Int32)), .val (.ref bu), .val (.int (Int32.ofNat n)), .val (.ref bz), .unset] [(.long (8 : Int64)), (.long (own_by (Int32.ofNat n) 1))])) (fun t kt => X1046.ldc2Long hx hown (mvT hZ (hw _ (List.mem_of_getElem? (i := 1) rfl))) (g := (mkF m 98 #[.val (.int p1), .val (.int p2), .val (.long q1), .second, .val (.int (1 : Int32)), .val (.long (9 : Int64)), .second, .val (.long (((p1.toInt64) * (9 : Int64)) * (8 : Int64))), .second, .val (.int (1 : Int32)), .val (.ref bu), .val (.int (Int32.ofNat n)), .val (.ref bz), .unset] [(.long (own_by (Int32.ofNat n) 1))])) rfl (hb hby at_98) _ kt) ?_
    refine go (T' := T1046) (g' := (mkF m 103 #[.val (.int p1), .val (.int p2), .val (.long q1), .second, .val (.int (1 : Int32)), .val (.long (9 : Int64)), .second, .val (.long (((p1.toInt64) * (9 : Int64)) * (8 : Int64))), .second, .val (.int (1 : Int32)), .val (.ref bu), .val (.int (Int32.ofNat n)), .val (.ref bz), .unset] [(.ref bz), (.long (8 : Int64)), (.long (own_by (Int32.ofNat n) 1))])) (fun t kt => XS.aload X1046.here hx rfl (hb hby at_101) rfl rfl kt) ?_
    refine go (T' := T1046) (g' := (mkF m 104 #[.val (.int p1), .val (.int p2), .val (.long q1), .second, .val (.int (1 : Int32)), .val (.long (9 : Int64)), .second, .val (.long (((p1.toInt64) * (9 : Int64)) * (8 : Int64))), .second, .val (.int (1 : Int32)), .val (.ref bu), .val (.int (Int32.ofNat n)), .val (.ref bz), .unset] [(.int (Int32.ofNat (9 * n))), (.long (8 : Int64)), (.long (own_by (Int32.ofNat n) 1))])) (fun t kt => own_len X1046 hx hZ e1046 Vz (g := (mkF m 103 #[.val (.int p1), .val (.int p2), .val (.long q1), .second, .val (.int (1 : Int32)), .val (.long (9 : Int64)), .second, .val (.long (((p1.toInt64) * (9 : Int64)) * (8 : Int64))), .second, .val (.int (1 : Int32)), .val (.ref bu), .val (.int (Int32.ofNat n)), .val (.ref bz), .unset] [(.ref bz), (.long (8 : Int64)), (.long (own_by (Int32.ofNat n) 1))])) rfl rfl (hb hby at_103) _ kt) ?_
    refine go (T' := T1046) (g' := (mkF m 105 #[.val (.int p1), .val (.int p2), .val (.long q1), .second, .val (.int (1 : Int32)), .val (.long (9 : Int64)), .second, .val (.long (((p1.toInt64) * (9 : Int64)) * (8 : Int64))), .second, .val (.int (1 : Int32)), .val (.ref bu), .val (.int (Int32.ofNat n)), .val (.ref bz), .unset] [(.long ((Int32.ofNat (9 * n)).toInt64)), (.long (8 : Int64)), (.long (own_by (Int32.ofNat n) 1))])) (fun t kt => XS.i2l X1046.here hx rfl (hb hby at_104) rfl kt) ?_
    refine go (T' := T1046) (g' := (mkF m 106 #[.val (.int p1), .val (.int p2), .val (.long q1), .second, .val (.int (1 : Int32)), .val (.long (9 : Int64)), .second, .val (.long (((p1.toInt64) * (9 : Int64)) * (8 : Int64))), .second, .val (.int (1 : Int32)), .val (.ref bu), .val (.int (Int32.ofNat n)), .val (.ref bz), .unset] [(.long ((8 : Int64) * ((Int32.ofNat (9 * n)).toInt64))), (.long (own_by (Int32.ofNat n) 1))])) (fun t kt => XS.lmul X1046.here hx rfl (hb hby at_105) rfl kt) ?_
    refine go (T' := T1046) (g' := (mkF m 107 #[.val (.int p1), .val (.int p2), .val (.long q1), .second, .val (.int (1 : Int32)), .val (.long (9 : Int64)), .second, .val (.long (((p1.toInt64) * (9 : Int64)) * (8 : Int64))), .second, .val (.int (1 : Int32)), .val (.ref bu), .val (.int (Int32.ofNat n)), .val (.ref bz), .unset] [(.int (lcmpW (own_by (Int32.ofNat n) 1) ((8 : Int64) * ((Int32.ofNat (9 * n)).toInt64))))])) (fun t kt => XS.lcmp X1046.here hx rfl (hb hby at_106) rfl kt) ?_
    refine go (T' := T1046) (g' := (mkF m 110 #[.val (.int p1), .val (.int p2), .val (.long q1), .second, .val (.int (1 : Int32)), .val (.long (9 : Int64)), .second, .val (.long (((p1.toInt64) * (9 : Int64)) * (8 : Int64))), .second, .val (.int (1 : Int32)), .val (.ref bu), .val (.int (Int32.ofNat n)), .val (.ref bz), .unset] [])) (fun t kt => XS.ifNo X1046.here hx rfl (hb hby at_107) rfl (own_l0 (by rcases hn with rfl | rfl <;> decide)).2 kt) ?_
    refine go (T' := T1046) (g' := (mkF m 111 #[.val (.int p1), .val (.int p2), .val (.long q1), .second, .val (.int (1 : Int32)), .val (.long (9 : Int64)), .second, .val (.long (((p1.toInt64) * (9 : Int64)) * (8 : Int64))), .second, .val (.int (1 : Int32)), .val (.ref bu), .val (.int (Int32.ofNat n)), .val (.ref bz), .unset] [(.int (1 : Int32))])) (fun t kt => XS.iconst X1046.here hx rfl (hb hby at_110) kt) ?_
    refine go (T' := T1046) (g' := (mkF m 115 #[.val (.int p1), .val (.int p2), .val (.long q1), .second, .val (.int (1 : Int32)), .val (.long (9 : Int64)), .second, .val (.long (((p1.toInt64) * (9 : Int64)) * (8 : Int64))), .second, .val (.int (1 : Int32)), .val (.ref bu), .val (.int (Int32.ofNat n)), .val (.ref bz), .unset] [(.int (1 : Int32))])) (fun t kt => XS.goto X1046.here hx rfl (pc0 := 111) (pc' := 115) rfl (hb hby at_111) (by decide) (by decide) kt) ?_
    refine go (T' := T1046) (g' := (mkF m 117 #[.val (.int p1), .val (.int p2), .val (.long q1), .second, .val (.int (1 : Int32)), .val (.long (9 : Int64)), .second, .val (.long (((p1.toInt64) * (9 : Int64)) * (8 : Int64))), .second, .val (.int (1 : Int32)), .val (.ref bu), .val (.int (Int32.ofNat n)), .val (.ref bz), .val (.int (1 : Int32))] [])) (fun t kt => XS.istore X1046.here hx rfl (hb hby at_115) rfl (l' := #[.val (.int p1), .val (.int p2), .val (.long q1), .second, .val (.int (1 : Int32)), .val (.long (9 : Int64)), .second, .val (.long (((p1.toInt64) * (9 : Int64)) * (8 : Int64))), .second, .val (.int (1 : Int32)), .val (.ref bu), .val (.int (Int32.ofNat n)), .val (.ref bz), .val (.int (1 : Int32))]) rfl kt) ?_
    refine go (T' := T1046) (g' := (mkF m 119 #[.val (.int p1), .val (.int p2), .val (.long q1), .second, .val (.int (1 : Int32)), .val (.long (9 : Int64)), .second, .val (.long (((p1.toInt64) * (9 : Int64)) * (8 : Int64))), .second, .val (.int (1 : Int32)), .val (.ref bu), .val (.int (Int32.ofNat n)), .val (.ref bz), .val (.int (1 : Int32))] [(.int (1 : Int32))])) (fun t kt => XS.iload X1046.here hx rfl (hb hby at_117) rfl kt) ?_
    refine go (T' := T1046) (g' := (mkF m 122 #[.val (.int p1), .val (.int p2), .val (.long q1), .second, .val (.int (1 : Int32)), .val (.long (9 : Int64)), .second, .val (.long (((p1.toInt64) * (9 : Int64)) * (8 : Int64))), .second, .val (.int (1 : Int32)), .val (.ref bu), .val (.int (Int32.ofNat n)), .val (.ref bz), .val (.int (1 : Int32))] [])) (fun t kt => XS.ifNo X1046.here hx rfl (hb hby at_119) rfl ((if0 _ _).trans (feq own_ne10).1) kt) ?_
    refine go (T' := T1046) (g' := (mkF m 124 #[.val (.int p1), .val (.int p2), .val (.long q1), .second, .val (.int (1 : Int32)), .val (.long (9 : Int64)), .second, .val (.long (((p1.toInt64) * (9 : Int64)) * (8 : Int64))), .second, .val (.int (1 : Int32)), .val (.ref bu), .val (.int (Int32.ofNat n)), .val (.ref bz), .val (.int (1 : Int32))] [(.int (1 : Int32))])) (fun t kt => XS.iload X1046.here hx rfl (hb hby at_122) rfl kt) ?_
    refine go (T' := T1046) (g' := (mkF m 127 #[.val (.int p1), .val (.int p2), .val (.long q1), .second, .val (.int (1 : Int32)), .val (.long (9 : Int64)), .second, .val (.long (((p1.toInt64) * (9 : Int64)) * (8 : Int64))), .second, .val (.int (1 : Int32)), .val (.ref bu), .val (.int (Int32.ofNat n)), .val (.ref bz), .val (.int (1 : Int32))] [])) (fun t kt => XS.ifNo X1046.here hx rfl (hb hby at_124) rfl ((if0 _ _).trans (feq own_ne10).1) kt) ?_
    refine go (T' := T1046) (g' := (mkF m 128 #[.val (.int p1), .val (.int p2), .val (.long q1), .second, .val (.int (1 : Int32)), .val (.long (9 : Int64)), .second, .val (.long (((p1.toInt64) * (9 : Int64)) * (8 : Int64))), .second, .val (.int (1 : Int32)), .val (.ref bu), .val (.int (Int32.ofNat n)), .val (.ref bz), .val (.int (1 : Int32))] [(.int (1 : Int32))])) (fun t kt => XS.iconst X1046.here hx rfl (hb hby at_127) kt) ?_
    refine go (T' := T1046) (g' := (mkF m 132 #[.val (.int p1), .val (.int p2), .val (.long q1), .second, .val (.int (1 : Int32)), .val (.long (9 : Int64)), .second, .val (.long (((p1.toInt64) * (9 : Int64)) * (8 : Int64))), .second, .val (.int (1 : Int32)), .val (.ref bu), .val (.int (Int32.ofNat n)), .val (.ref bz), .val (.int (1 : Int32))] [(.int (1 : Int32))])) (fun t kt => XS.goto X1046.here hx rfl (pc0 := 128) (pc' := 132) rfl (hb hby at_128) (by decide) (by decide) kt) ?_
    refine goRetN X1046 hx hlk (t := .boolean) Bd.returns (by simp) (hb hby at_132) ?_ (by decide) (by decide)
    rw [e1046]
    exact ⟨rfl, N1046⟩
set_option maxRecDepth 65536 in
set_option maxHeartbeats 40000000 in
theorem comes_1 {Post : Tables → Env → Array Value → State → Outcome → State → Prop} (hpost : ∀ tb e args s v u, (limb_1_1.after args s (.returned v) u = true ∧ limb_1_2.after args s (.returned v) u = true ∧ True) → FrameEnd s (.returned v) u (Jvm.fieldLocs frame_1_writes args s ++ Jvm.arrayLocs frame_1_arrays args s ++ Jvm.staticLocs frame_1_statics s) 16 192 → Post tb e args s (.returned v) u) :
    ArmFor flags0 classFile x code maxLocals ret World_1 tables_1 room_1 Calls_1 rest_1 Pre_1 Post := by
  intro l hfl _ _ p e ha hc hk s m args below hf hA hF happ hP
  obtain ⟨hcalls, hrest, hpre⟩ := hP
  obtain ⟨-, -, -, hnamed, -, -, -, hat⟩ := (Spec.applies_iff hf).mp happ
  obtain ⟨hg, hn⟩ := and_e (Cond.before_iff.mp (show (Jvm.Cond.and given_1 narrow_1).before args s = true from hpre))
  obtain ⟨g2, g2'⟩ := and_e hg
  obtain ⟨g4, g4'⟩ := and_e g2'
  obtain ⟨g6, g6'⟩ := and_e g4'
  obtain ⟨w0, w1, w2, rfl⟩ : ∃ w0 w1 w2 : Value, args = #[w0, w1, w2] := by
    have hs : args.size = 3 := by simpa [Cond.value, given_1] using g2
    obtain ⟨L⟩ := args
    match L, hs with
    | [w0, w1, w2], _ => exact ⟨w0, w1, w2, rfl⟩
  have hw := fun d (hd : d ∈ tables_1) => atoms_spec (ws := Jvm.Cond.code x code maxLocals ret :: tables_1) hat d (List.mem_cons_of_mem _ hd)
  have hfit : Fit s := fun {y c} hc i hi => by
    obtain ⟨ha, rfl⟩ := Array.getElem?_eq_some_iff.mp hc
    have q := List.all_eq_true.mp ((Array.all_eq_true_iff_forall_mem.mp hF) _ (Array.getElem_mem ha)) i (List.mem_range.mpr hi)
    simpa [Array.getElem?_eq_getElem hi] using q
  obtain ⟨i0, ei0⟩ := is_v g4
  obtain rfl : w0 = (.int i0) := Option.some.inj ei0
  obtain ⟨i1, ei1⟩ := is_v g6
  obtain rfl : w1 = (.int i1) := Option.some.inj ei1
  obtain ⟨i2, ei2⟩ := isL_v g6'
  obtain rfl : w2 = (.long i2) := Option.some.inj ei2
  obtain ⟨n, o, h1, h2, h3, _, L, rfl, ⟨rfl, N⟩, hq⟩ := rm0 l s _ hw tables_1 i0 i1 i2 s.heap s.heap.size (Nat.le_refl _) p e ha hc hk s m _ below hf ((Spec.applies_iff_loose hf).mp happ).1 ⟨rfl, State.Warmed39.refl s, rfl⟩ trivial
  refine ⟨n, _, h1, h2, h3, hpost _ _ _ _ _ _ ⟨Cond.after_iff.mpr rfl, Cond.after_iff.mpr (eq_i res_at (Term.int_eval (1)) rfl), trivial⟩ ⟨hq.1, hq.2.1, (hq.2.2.sift fun y hy => Or.inr (N y hy)).mono (by decide) (by decide)⟩⟩
theorem main_1_1 : Claimed_1_1 := comes_1 fun _ _ _ _ _ _ h hF => ⟨h.1, hF⟩
theorem main_1_2 : Claimed_1_2 := comes_1 fun _ _ _ _ _ _ h hF => ⟨h.2.1, hF⟩
end Jvm.Pilot.@@N@@
namespace Jvm.Pilot.@@N@@
open Jvm Jvm.ClassFile Sem Op Lib Jvm.Free Jvm.Stand Jvm.Pilot.@@N@@.Jvm.D
/-! MADE BY PROGRAM (witnessworld.py) out of the Statement's table words and the real class files: 14 classes; the members and pool entries that the words name. The judged class is class 1, her method 1. -/
namespace start1
open Jvm.ClassFile
def u (s : String) : CpInfo := .utf8 (stringToUtf16 s)
/-- a pool by its gaps: so many unusable entries, then the entry; so many at the end -/
def gap : Nat → List CpInfo → List CpInfo
  | 0, r => r
  | n + 1, r => .unusable :: gap n r
def poolList (es : List (Nat × CpInfo)) (last : Nat) : List CpInfo := es.foldr (fun e r => gap e.1 (e.2 :: r)) (gap last [])
def pool (es : List (Nat × CpInfo)) (last : Nat) : Array CpInfo := ⟨poolList es last⟩
def fileOf (pool : Array CpInfo) (this : Nat) (attrs : Array Attribute := #[]) (ms : Array MethodInfo := #[]) (fl : Nat := 33) (sup : Nat := 0) (ifs : Array Nat := #[]) (fds : Array FieldInfo := #[]) : ClassFile where
  minorVersion := 0
  majorVersion := 65
  constantPool := pool
  accessFlags := fl
  thisClass := this
  superClass := sup
  interfaces := ifs
  fields := fds
  methods := ms
  attributes := attrs
def plain (name : String) (sup : Option ClassId) : Class where
  name := name
  kind := .ordinary
  loader := none
  accessFlags := 33
  super := sup
  interfaces := #[]
  cf := none
  fields := #[]
  methods := #[]
  instanceTypes := #[]
  staticTypes := #[]
  resolved := #[]
  callSites := []
  init := .initialized
  statics := none
  mirror := none

def pool0 : Array CpInfo := pool [(5, u "<init>"), (0, u "()V"), (1, .class_ 10), (1, u "java/lang/Object")] 113

def k0c0 : Code := { maxStack := 0, maxLocals := 1, code := object_method_1_code, exceptionTable := #[], attributes := #[] }
def k0m0 : Method := { name := "<init>", desc := "()V", sig := { parameters := [], returnType := none }, accessFlags := 1, code := some k0c0 }
/-- java/lang/Object -/
def k0 : Class := { plain "java/lang/Object" none with
  accessFlags := 33
  interfaces := #[]
  cf := some (fileOf pool0 8 #[] #[{ accessFlags := 1, nameIndex := 5, descriptorIndex := 6, attributes := #[] }] 33 0 #[] #[])
  fields := #[]
  methods := #[k0m0]
  instanceTypes := #[]
  staticTypes := #[]
  resolved := Array.replicate 124 none
  statics := none }

def pool1 : Array CpInfo := pool [(2, .class_ 4), (1, u "java/lang/Object"), (0, u "<init>"), (0, u "()V"), (0, .long 9), (1, .long 8), (1, .methodref 12 13), (0, .class_ 14), (0, .nameAndType 15 16), (0, u "com/example/tallyward/tallyward/io/KeyFilter"), (0, u "bytes"), (0, u "(IZ)J"), (0, .class_ 18), (0, u "com/example/tallyward/tallyward/io/KeyFilter$Building"), (0, .long 31), (1, .methodref 17 22), (0, .nameAndType 5 23), (0, u "(JJJ)V"), (0, .methodref 17 25), (0, .nameAndType 26 27), (0, u "blocks"), (0, u "()I"), (0, .methodref 17 29), (0, .nameAndType 30 31), (0, u "words"), (0, u "(Z)[J"), (0, .class_ 33), (0, u "com/example/tallyward/tallyward/io/KeyFilterBytesPinLaw"), (2, u "law"), (0, u "(IIJ)Z")] 7

def k1m0 : Method := { name := "<init>", desc := "()V", sig := { parameters := [], returnType := none }, accessFlags := 2, code := none }
def k1c1 : Code := { maxStack := 8, maxLocals := 14, code := code, exceptionTable := #[], attributes := #[] }
def k1m1 : Method := { name := "law", desc := "(IIJ)Z", sig := { parameters := [.int, .int, .long], returnType := some .boolean }, accessFlags := 9, code := some k1c1 }
/-- com/example/tallyward/tallyward/io/KeyFilterBytesPinLaw -/
def k1 : Class := { plain "com/example/tallyward/tallyward/io/KeyFilterBytesPinLaw" (some 0) with
  accessFlags := 49
  interfaces := #[]
  cf := some (fileOf pool1 32 #[] #[{ accessFlags := 2, nameIndex := 5, descriptorIndex := 6, attributes := #[] }, { accessFlags := 9, nameIndex := 36, descriptorIndex := 37, attributes := #[] }] 49 2 #[] #[])
  fields := #[]
  methods := #[k1m0, k1m1]
  instanceTypes := #[]
  staticTypes := #[]
  resolved := Array.replicate 45 none
  statics := none }

def pool2 : Array CpInfo := pool [(1, .class_ 2), (0, u "com/example/tallyward/tallyward/io/KeyFilter"), (3, .class_ 8), (1, u "java/lang/Object"), (4, u "file"), (0, u "Lcom/example/tallyward/tallyward/io/MappedFile;"), (2, u "path"), (0, u "Ljava/nio/file/Path;"), (2, u "at"), (0, u "J"), (0, .class_ 24), (0, u "com/example/tallyward/tallyward/io/KeyFilter$Blocks"), (5, u "blocks"), (0, u "Lcom/example/tallyward/tallyward/io/KeyFilter$Blocks;"), (2, u "checked"), (0, u "Z"), (2, u "bytes"), (0, u "(IZ)J"), (2, u "stride"), (4, u "matched"), (0, u "[I"), (0, .long 24), (3, .long 512), (1, .methodref 56 57), (0, .class_ 58), (0, .nameAndType 59 60), (0, u "java/lang/Math"), (0, u "max"), (0, u "(JJ)J"), (0, .methodref 56 62), (0, .nameAndType 63 64), (0, u "toIntExact"), (0, u "(J)I"), (24, u "emptyCheck"), (0, u "(I)J"), (2, u "withWord"), (0, u "(JIJ)J"), (23, .long 2), (1, .long 11400714819323198485), (5, u "BITS_PER_KEY"), (0, u "I"), (2, u "BLOCK_WORDS"), (1, u "BLOCK_BYTES"), (1, u "WORD_BITS"), (1, u "CHECK_MULTIPLIER"), (10, .class_ 148), (0, u "com/example/tallyward/tallyward/io/KeyFilter$Building")] 3

def k2c0 : Code := { maxStack := 6, maxLocals := 2, code := prog_55_method_2_code, exceptionTable := #[], attributes := #[] }
def k2m0 : Method := { name := "blocks", desc := "(J)I", sig := { parameters := [.long], returnType := some .int }, accessFlags := 8, code := some k2c0 }
def k2c1 : Code := { maxStack := 4, maxLocals := 2, code := prog_55_method_3_code, exceptionTable := #[], attributes := #[] }
def k2m1 : Method := { name := "bytes", desc := "(IZ)J", sig := { parameters := [.int, .boolean], returnType := some .long }, accessFlags := 8, code := some k2c1 }
def k2c2 : Code := { maxStack := 4, maxLocals := 1, code := prog_55_method_6_code, exceptionTable := #[], attributes := #[] }
def k2m2 : Method := { name := "emptyCheck", desc := "(I)J", sig := { parameters := [.int], returnType := some .long }, accessFlags := 10, code := some k2c2 }
def k2c3 : Code := { maxStack := 8, maxLocals := 5, code := prog_55_method_7_code, exceptionTable := #[], attributes := #[] }
def k2m3 : Method := { name := "withWord", desc := "(JIJ)J", sig := { parameters := [.long, .int, .long], returnType := some .long }, accessFlags := 10, code := some k2c3 }
/-- com/example/tallyward/tallyward/io/KeyFilter -/
def k2 : Class := { plain "com/example/tallyward/tallyward/io/KeyFilter" (some 0) with
  accessFlags := 48
  interfaces := #[]
  cf := some (fileOf pool2 1 #[.nestMembers #[147, 23]] #[{ accessFlags := 8, nameIndex := 30, descriptorIndex := 64, attributes := #[] }, { accessFlags := 8, nameIndex := 38, descriptorIndex := 39, attributes := #[] }, { accessFlags := 10, nameIndex := 89, descriptorIndex := 90, attributes := #[] }, { accessFlags := 10, nameIndex := 93, descriptorIndex := 94, attributes := #[] }] 48 6 #[] #[{ accessFlags := 26, nameIndex := 126, descriptorIndex := 127, attributes := #[] }, { accessFlags := 26, nameIndex := 130, descriptorIndex := 127, attributes := #[] }, { accessFlags := 26, nameIndex := 132, descriptorIndex := 127, attributes := #[] }, { accessFlags := 26, nameIndex := 134, descriptorIndex := 127, attributes := #[] }, { accessFlags := 26, nameIndex := 136, descriptorIndex := 22, attributes := #[] }, { accessFlags := 18, nameIndex := 13, descriptorIndex := 14, attributes := #[] }, { accessFlags := 18, nameIndex := 17, descriptorIndex := 18, attributes := #[] }, { accessFlags := 18, nameIndex := 21, descriptorIndex := 22, attributes := #[] }, { accessFlags := 18, nameIndex := 30, descriptorIndex := 31, attributes := #[] }, { accessFlags := 18, nameIndex := 34, descriptorIndex := 35, attributes := #[] }, { accessFlags := 18, nameIndex := 42, descriptorIndex := 22, attributes := #[] }, { accessFlags := 18, nameIndex := 47, descriptorIndex := 48, attributes := #[] }])
  fields := #[{ name := "BITS_PER_KEY", type := .int, accessFlags := 26, slot := 0, constantValue := 0 }, { name := "BLOCK_WORDS", type := .int, accessFlags := 26, slot := 1, constantValue := 0 }, { name := "BLOCK_BYTES", type := .int, accessFlags := 26, slot := 2, constantValue := 0 }, { name := "WORD_BITS", type := .int, accessFlags := 26, slot := 3, constantValue := 0 }, { name := "CHECK_MULTIPLIER", type := .long, accessFlags := 26, slot := 4, constantValue := 0 }, { name := "file", type := (.object "com/example/tallyward/tallyward/io/MappedFile"), accessFlags := 18, slot := 0, constantValue := 0 }, { name := "path", type := (.object "java/nio/file/Path"), accessFlags := 18, slot := 1, constantValue := 0 }, { name := "at", type := .long, accessFlags := 18, slot := 2, constantValue := 0 }, { name := "blocks", type := (.object "com/example/tallyward/tallyward/io/KeyFilter$Blocks"), accessFlags := 18, slot := 3, constantValue := 0 }, { name := "checked", type := .boolean, accessFlags := 18, slot := 4, constantValue := 0 }, { name := "stride", type := .long, accessFlags := 18, slot := 5, constantValue := 0 }, { name := "matched", type := (.array .int), accessFlags := 18, slot := 6, constantValue := 0 }]
  methods := #[k2m0, k2m1, k2m2, k2m3]
  instanceTypes := #[(.object "com/example/tallyward/tallyward/io/MappedFile"), (.object "java/nio/file/Path"), .long, (.object "com/example/tallyward/tallyward/io/KeyFilter$Blocks"), .boolean, .long, (.array .int)]
  staticTypes := #[.int, .int, .int, .int, .long]
  resolved := Array.replicate 152 none
  statics := none }

def pool3 : Array CpInfo := pool [(1, .class_ 2), (0, u "com/example/tallyward/tallyward/io/KeyFilter"), (0, .methodref 4 5), (0, .class_ 6), (0, .nameAndType 7 8), (0, u "java/lang/Object"), (0, u "<init>"), (0, u "()V"), (0, .methodref 1 10), (0, .nameAndType 11 12), (0, u "blocks"), (0, u "(J)I"), (0, .methodref 14 15), (0, .class_ 16), (0, .nameAndType 17 18), (0, u "java/lang/Math"), (0, u "multiplyExact"), (0, u "(II)I"), (0, .fieldref 20 21), (0, .class_ 22), (0, .nameAndType 23 24), (0, u "com/example/tallyward/tallyward/io/KeyFilter$Building"), (0, u "words"), (0, u "[J"), (0, .class_ 26), (0, u "com/example/tallyward/tallyward/io/KeyFilter$Blocks"), (0, .methodref 25 28), (0, .nameAndType 7 29), (0, u "(IJJ)V"), (0, .fieldref 20 31), (0, .nameAndType 11 32), (0, u "Lcom/example/tallyward/tallyward/io/KeyFilter$Blocks;"), (11, .fieldref 25 45), (0, .nameAndType 46 47), (0, u "count"), (0, u "I"), (0, .methodref 1 49), (0, .nameAndType 50 51), (0, u "emptyCheck"), (0, u "(I)J"), (0, .methodref 1 53), (0, .nameAndType 54 55), (0, u "withWord"), (0, u "(JIJ)J"), (0, u "(JJJ)V"), (5, u "()I"), (0, u "(Z)[J")] 7

def k3c0 : Code := { maxStack := 8, maxLocals := 8, code := prog_57_method_1_code, exceptionTable := #[], attributes := #[] }
def k3m0 : Method := { name := "<init>", desc := "(JJJ)V", sig := { parameters := [.long, .long, .long], returnType := none }, accessFlags := 0, code := some k3c0 }
def k3c1 : Code := { maxStack := 1, maxLocals := 1, code := prog_57_method_3_code, exceptionTable := #[], attributes := #[] }
def k3m1 : Method := { name := "blocks", desc := "()I", sig := { parameters := [], returnType := some .int }, accessFlags := 0, code := some k3c1 }
def k3c2 : Code := { maxStack := 5, maxLocals := 9, code := prog_57_method_4_code, exceptionTable := #[], attributes := #[] }
def k3m2 : Method := { name := "words", desc := "(Z)[J", sig := { parameters := [.boolean], returnType := some (.array .long) }, accessFlags := 0, code := some k3c2 }
/-- com/example/tallyward/tallyward/io/KeyFilter$Building -/
def k3 : Class := { plain "com/example/tallyward/tallyward/io/KeyFilter$Building" (some 0) with
  accessFlags := 48
  interfaces := #[]
  cf := some (fileOf pool3 20 #[.nestHost 1] #[{ accessFlags := 0, nameIndex := 7, descriptorIndex := 56, attributes := #[] }, { accessFlags := 0, nameIndex := 11, descriptorIndex := 62, attributes := #[] }, { accessFlags := 0, nameIndex := 23, descriptorIndex := 63, attributes := #[] }] 48 4 #[] #[{ accessFlags := 18, nameIndex := 23, descriptorIndex := 24, attributes := #[] }, { accessFlags := 18, nameIndex := 11, descriptorIndex := 32, attributes := #[] }])
  fields := #[{ name := "words", type := (.array .long), accessFlags := 18, slot := 0, constantValue := 0 }, { name := "blocks", type := (.object "com/example/tallyward/tallyward/io/KeyFilter$Blocks"), accessFlags := 18, slot := 1, constantValue := 0 }]
  methods := #[k3m0, k3m1, k3m2]
  instanceTypes := #[(.array .long), (.object "com/example/tallyward/tallyward/io/KeyFilter$Blocks")]
  staticTypes := #[]
  resolved := Array.replicate 71 none
  statics := none }

def pool4 : Array CpInfo := pool [(1, .class_ 2), (0, u "java/lang/Math"), (1, .class_ 6), (1, u "java/lang/Object"), (0, u "<init>"), (0, u "()V"), (89, .class_ 100), (1, u "java/lang/Math$RandomNumberGeneratorHolder"), (19, u "multiplyExact"), (0, u "(JJ)J"), (50, u "negativeZeroFloatBits"), (0, u "J"), (2, u "negativeZeroDoubleBits"), (21, u "max"), (46, u "$assertionsDisabled"), (0, u "Z"), (88, u "(II)I"), (2, u "twoToTheDoubleScaleDown"), (0, u "D"), (4, u "twoToTheDoubleScaleUp"), (9, u "E"), (3, u "PI"), (2, u "TAU"), (2, u "DEGREES_TO_RADIANS"), (0, u "RADIANS_TO_DEGREES"), (39, u "toIntExact"), (0, u "(J)I")] 53

def k4m0 : Method := { name := "<init>", desc := "()V", sig := { parameters := [], returnType := none }, accessFlags := 2, code := none }
def k4c1 : Code := { maxStack := 4, maxLocals := 4, code := jdk_29_method_28_code, exceptionTable := #[], attributes := #[] }
def k4m1 : Method := { name := "multiplyExact", desc := "(II)I", sig := { parameters := [.int, .int], returnType := some .int }, accessFlags := 9, code := some k4c1 }
def k4c2 : Code := { maxStack := 4, maxLocals := 2, code := jdk_29_method_43_code, exceptionTable := #[], attributes := #[] }
def k4m2 : Method := { name := "toIntExact", desc := "(J)I", sig := { parameters := [.long], returnType := some .int }, accessFlags := 9, code := some k4c2 }
def k4c3 : Code := { maxStack := 4, maxLocals := 4, code := jdk_29_method_66_code, exceptionTable := #[], attributes := #[] }
def k4m3 : Method := { name := "max", desc := "(JJ)J", sig := { parameters := [.long, .long], returnType := some .long }, accessFlags := 9, code := some k4c3 }
/-- java/lang/Math -/
def k4 : Class := { plain "java/lang/Math" (some 0) with
  accessFlags := 49
  interfaces := #[]
  cf := some (fileOf pool4 1 #[.nestMembers #[98]] #[{ accessFlags := 2, nameIndex := 7, descriptorIndex := 8, attributes := #[] }, { accessFlags := 9, nameIndex := 120, descriptorIndex := 335, attributes := #[] }, { accessFlags := 9, nameIndex := 405, descriptorIndex := 406, attributes := #[] }, { accessFlags := 9, nameIndex := 198, descriptorIndex := 121, attributes := #[] }] 49 4 #[] #[{ accessFlags := 25, nameIndex := 354, descriptorIndex := 339, attributes := #[] }, { accessFlags := 25, nameIndex := 358, descriptorIndex := 339, attributes := #[] }, { accessFlags := 25, nameIndex := 361, descriptorIndex := 339, attributes := #[] }, { accessFlags := 26, nameIndex := 364, descriptorIndex := 339, attributes := #[] }, { accessFlags := 26, nameIndex := 365, descriptorIndex := 339, attributes := #[] }, { accessFlags := 26, nameIndex := 172, descriptorIndex := 173, attributes := #[] }, { accessFlags := 26, nameIndex := 176, descriptorIndex := 173, attributes := #[] }, { accessFlags := 8, nameIndex := 344, descriptorIndex := 339, attributes := #[] }, { accessFlags := 8, nameIndex := 338, descriptorIndex := 339, attributes := #[] }, { accessFlags := 4120, nameIndex := 245, descriptorIndex := 246, attributes := #[] }])
  fields := #[{ name := "E", type := .double, accessFlags := 25, slot := 0, constantValue := 0 }, { name := "PI", type := .double, accessFlags := 25, slot := 1, constantValue := 0 }, { name := "TAU", type := .double, accessFlags := 25, slot := 2, constantValue := 0 }, { name := "DEGREES_TO_RADIANS", type := .double, accessFlags := 26, slot := 3, constantValue := 0 }, { name := "RADIANS_TO_DEGREES", type := .double, accessFlags := 26, slot := 4, constantValue := 0 }, { name := "negativeZeroFloatBits", type := .long, accessFlags := 26, slot := 5, constantValue := 0 }, { name := "negativeZeroDoubleBits", type := .long, accessFlags := 26, slot := 6, constantValue := 0 }, { name := "twoToTheDoubleScaleUp", type := .double, accessFlags := 8, slot := 7, constantValue := 0 }, { name := "twoToTheDoubleScaleDown", type := .double, accessFlags := 8, slot := 8, constantValue := 0 }, { name := "$assertionsDisabled", type := .boolean, accessFlags := 4120, slot := 9, constantValue := 0 }]
  methods := #[k4m0, k4m1, k4m2, k4m3]
  instanceTypes := #[]
  staticTypes := #[.double, .double, .double, .double, .double, .long, .long, .double, .double, .boolean]
  resolved := Array.replicate 460 none
  statics := none }

def pool5 : Array CpInfo := pool [(1, .methodref 2 3), (0, .class_ 4), (0, .nameAndType 5 6), (0, u "java/lang/Object"), (0, u "<init>"), (0, u "()V"), (0, .fieldref 8 9), (0, .class_ 10), (0, .nameAndType 11 12), (0, u "com/example/tallyward/tallyward/io/KeyFilter$Blocks"), (0, u "count"), (0, u "I"), (0, .fieldref 8 14), (0, .nameAndType 15 16), (0, u "first"), (0, u "J"), (2, .fieldref 8 20), (0, .nameAndType 21 16), (0, u "scale"), (0, u "(IJJ)V"), (7, .class_ 31), (0, u "com/example/tallyward/tallyward/io/KeyFilter")] 2

def k5c0 : Code := { maxStack := 7, maxLocals := 6, code := prog_56_method_1_code, exceptionTable := #[], attributes := #[] }
def k5m0 : Method := { name := "<init>", desc := "(IJJ)V", sig := { parameters := [.int, .long, .long], returnType := none }, accessFlags := 0, code := some k5c0 }
/-- com/example/tallyward/tallyward/io/KeyFilter$Blocks -/
def k5 : Class := { plain "com/example/tallyward/tallyward/io/KeyFilter$Blocks" (some 0) with
  accessFlags := 48
  interfaces := #[]
  cf := some (fileOf pool5 8 #[.nestHost 30] #[{ accessFlags := 0, nameIndex := 5, descriptorIndex := 22, attributes := #[] }] 48 2 #[] #[{ accessFlags := 18, nameIndex := 11, descriptorIndex := 12, attributes := #[] }, { accessFlags := 18, nameIndex := 15, descriptorIndex := 16, attributes := #[] }, { accessFlags := 18, nameIndex := 21, descriptorIndex := 16, attributes := #[] }])
  fields := #[{ name := "count", type := .int, accessFlags := 18, slot := 0, constantValue := 0 }, { name := "first", type := .long, accessFlags := 18, slot := 1, constantValue := 0 }, { name := "scale", type := .long, accessFlags := 18, slot := 2, constantValue := 0 }]
  methods := #[k5m0]
  instanceTypes := #[.int, .long, .long]
  staticTypes := #[]
  resolved := Array.replicate 34 none
  statics := none }

def pool6 : Array CpInfo := pool [(1, u "java/lang/Cloneable"), (0, .class_ 1), (0, u "java/lang/Object"), (0, .class_ 3)] 3

/-- java/lang/Cloneable -/
def k6 : Class := { plain "java/lang/Cloneable" (some 0) with
  accessFlags := 1537
  interfaces := #[]
  cf := some (fileOf pool6 2 #[] #[] 1537 4 #[] #[])
  fields := #[]
  methods := #[]
  instanceTypes := #[]
  staticTypes := #[]
  resolved := Array.replicate 8 none
  statics := none }

def pool7 : Array CpInfo := pool [(1, u "java/io/Serializable"), (0, .class_ 1), (0, u "java/lang/Object"), (0, .class_ 3)] 3

/-- java/io/Serializable -/
def k7 : Class := { plain "java/io/Serializable" (some 0) with
  accessFlags := 1537
  interfaces := #[]
  cf := some (fileOf pool7 2 #[] #[] 1537 4 #[] #[])
  fields := #[]
  methods := #[]
  instanceTypes := #[]
  staticTypes := #[]
  resolved := Array.replicate 8 none
  statics := none }

/-- the primitive byte -/
def k8 : Class := { plain "byte" none with kind := .primitive 'B', accessFlags := 0x411 }
/-- [B -/
def k9 : Class := { plain "[B" (some 0) with kind := .array 8 .byte, interfaces := #[6, 7], accessFlags := 1041 }

/-- the primitive int -/
def k10 : Class := { plain "int" none with kind := .primitive 'I', accessFlags := 0x411 }
/-- [I -/
def k11 : Class := { plain "[I" (some 0) with kind := .array 10 .int, interfaces := #[6, 7], accessFlags := 1041 }

/-- the primitive long -/
def k12 : Class := { plain "long" none with kind := .primitive 'J', accessFlags := 0x411 }
/-- [J -/
def k13 : Class := { plain "[J" (some 0) with kind := .array 12 .long, interfaces := #[6, 7], accessFlags := 1041 }

def heap : Heap := #[]
def classes : Array Class := #[k0, k1, k2, k3, k4, k5, k6, k7, k8, k9, k10, k11, k12, k13]
def interned : List (Array UInt16 × Addr) := []
def slotsUsed : Nat := 0
def theMethod : MethodId := ⟨1, 1⟩
def args0 : Array Value := #[.int 5, .int 1, .long 3]
def aboutOver (below : List Frame) : State where
  vm := { classes := classes, interned := interned.toArray }
  heap := heap
  slotsUsed := slotsUsed
  threads := #[{ frames := .invoking theMethod args0 :: below }]
def below0 : List Frame := [.native { method := ⟨0, 0⟩, args := #[] }]
def about1 : State := aboutOver below0
def p0 : Program := .bare "" "" ""
def e0 : Env := launch0.env 0 0 0
theorem w_frames : about1.frames = Frame.invoking theMethod args0 :: below0 := rfl
set_option maxRecDepth 65536 in
theorem w_args : argsFit about1.vm theMethod args0 = true := by decide +kernel
set_option maxRecDepth 65536 in
theorem w_heap : heapFits about1 = true := by decide +kernel
set_option maxRecDepth 65536 in
theorem w_runnable : about1.curStatus? = some .runnable := by decide +kernel
set_option maxRecDepth 65536 in
theorem w_alone : about1.alone = true := by decide +kernel
set_option maxRecDepth 65536 in
theorem w_named : about1.methodNamed? x = some theMethod := by decide +kernel
set_option maxRecDepth 65536 in
theorem w_hears : about1.hears theMethod below0 = true := by decide +kernel
set_option maxRecDepth 65536 in
theorem w_ripe : about1.ripe theMethod args0 below0 = true := by decide +kernel
theorem w_running : about1.status = .running := rfl
set_option maxRecDepth 65536 in
theorem w_room : about1.hasRoom e0.platform room_1 = true :=
  launch0.hasRoom_least _ room_1 (by decide +kernel) (by decide +kernel) (by decide +kernel) (by decide +kernel) (by decide +kernel) (by decide +kernel)
theorem allAtoms_all (ts : List Jvm.Cond) (a : Array Jvm.Value) (st : Jvm.State) : (allAtoms ts).before a st = ts.all (fun c => c.before a st) := by
  induction ts with
  | nil => rfl
  | cons c t ih =>
    show (Jvm.Cond.and c (allAtoms t)).before a st = _
    rw [Jvm.Cond.before_and, ih, List.all_cons]
def words1 : List Jvm.Cond := Jvm.Cond.code x code maxLocals ret :: tables_1
/-- a 'code' word, met by the world's own term for the bytes: nothing is compared byte by byte -/
theorem code_word {y : MethodName} {bytes : ByteArray} {mx : Nat} {rt : Option FieldType} {a : Array Value} {s : State} {m : MethodId} {meth : Method} {c : Code} (h1 : s.methodNamed? y = some m) (h2 : s.vm.method? m = some meth) (h3 : meth.code = some c) (h4 : c.code = bytes)
    (h5 : (c.maxLocals == mx && c.exceptionTable.isEmpty && decide (c.maxStack ≤ mostOperands) && decide (meth.sig.returnType = rt) && !meth.locks && decide (parseMethodDescriptor y.desc = some meth.sig)) = true) : (Jvm.Cond.code y bytes mx rt).before a s = true := by
  simp only [Bool.and_eq_true, beq_iff_eq, Bool.not_eq_true', decide_eq_true_eq] at h5
  obtain ⟨⟨⟨⟨⟨g1, g2⟩, g3⟩, g4⟩, g5⟩, g6⟩ := h5
  simp [Cond.before, Cond.holds, Cond.value, h1, h2, h3, h4, g1, g2, g3, g4, g5, g6]
def isCode : Jvm.Cond → Bool
  | .code _ _ _ _ => true
  | _ => false
theorem all_split {L : List Jvm.Cond} {P : Jvm.Cond → Bool} (h1 : L.all (fun c => isCode c || P c) = true) (h2 : ∀ c ∈ L.filter isCode, P c = true) : L.all P = true := by
  refine List.all_eq_true.mpr fun c hc => ?_
  have h := List.all_eq_true.mp h1 c hc
  rcases Bool.eq_false_or_eq_true (isCode c) with hi | hi
  · exact h2 c (List.mem_filter.mpr ⟨hc, hi⟩)
  · simpa [hi] using h
set_option maxRecDepth 65536 in
theorem w_c0 : (Jvm.Cond.code x code maxLocals ret).before args0 about1 = true := code_word (m := ⟨1, 1⟩) (meth := k1m1) (c := k1c1) (by decide +kernel) rfl rfl rfl (by decide +kernel)
set_option maxRecDepth 65536 in
theorem w_c1 : (Jvm.Cond.code ({ cls := "com/example/tallyward/tallyward/io/KeyFilter", name := "bytes", desc := "(IZ)J" } : Jvm.MethodName) prog_55_method_3_code (2 : Nat) (Option.some Jvm.ClassFile.FieldType.long)).before args0 about1 = true := code_word (m := ⟨2, 1⟩) (meth := k2m1) (c := k2c1) (by decide +kernel) rfl rfl rfl (by decide +kernel)
set_option maxRecDepth 65536 in
theorem w_c2 : (Jvm.Cond.code ({ cls := "com/example/tallyward/tallyward/io/KeyFilter$Building", name := "<init>", desc := "(JJJ)V" } : Jvm.MethodName) prog_57_method_1_code (8 : Nat) (Option.none : Option Jvm.ClassFile.FieldType)).before args0 about1 = true := code_word (m := ⟨3, 0⟩) (meth := k3m0) (c := k3c0) (by decide +kernel) rfl rfl rfl (by decide +kernel)
set_option maxRecDepth 65536 in
theorem w_c3 : (Jvm.Cond.code ({ cls := "java/lang/Object", name := "<init>", desc := "()V" } : Jvm.MethodName) object_method_1_code (1 : Nat) (Option.none : Option Jvm.ClassFile.FieldType)).before args0 about1 = true := code_word (m := ⟨0, 0⟩) (meth := k0m0) (c := k0c0) (by decide +kernel) rfl rfl rfl (by decide +kernel)
set_option maxRecDepth 65536 in
theorem w_c4 : (Jvm.Cond.code ({ cls := "com/example/tallyward/tallyward/io/KeyFilter", name := "blocks", desc := "(J)I" } : Jvm.MethodName) prog_55_method_2_code (2 : Nat) (Option.some Jvm.ClassFile.FieldType.int)).before args0 about1 = true := code_word (m := ⟨2, 0⟩) (meth := k2m0) (c := k2c0) (by decide +kernel) rfl rfl rfl (by decide +kernel)
set_option maxRecDepth 65536 in
theorem w_c5 : (Jvm.Cond.code ({ cls := "java/lang/Math", name := "max", desc := "(JJ)J" } : Jvm.MethodName) jdk_29_method_66_code (4 : Nat) (Option.some Jvm.ClassFile.FieldType.long)).before args0 about1 = true := code_word (m := ⟨4, 3⟩) (meth := k4m3) (c := k4c3) (by decide +kernel) rfl rfl rfl (by decide +kernel)
set_option maxRecDepth 65536 in
theorem w_c6 : (Jvm.Cond.code ({ cls := "java/lang/Math", name := "toIntExact", desc := "(J)I" } : Jvm.MethodName) jdk_29_method_43_code (2 : Nat) (Option.some Jvm.ClassFile.FieldType.int)).before args0 about1 = true := code_word (m := ⟨4, 2⟩) (meth := k4m2) (c := k4c2) (by decide +kernel) rfl rfl rfl (by decide +kernel)
set_option maxRecDepth 65536 in
theorem w_c7 : (Jvm.Cond.code ({ cls := "java/lang/Math", name := "multiplyExact", desc := "(II)I" } : Jvm.MethodName) jdk_29_method_28_code (4 : Nat) (Option.some Jvm.ClassFile.FieldType.int)).before args0 about1 = true := code_word (m := ⟨4, 1⟩) (meth := k4m1) (c := k4c1) (by decide +kernel) rfl rfl rfl (by decide +kernel)
set_option maxRecDepth 65536 in
theorem w_c8 : (Jvm.Cond.code ({ cls := "com/example/tallyward/tallyward/io/KeyFilter$Blocks", name := "<init>", desc := "(IJJ)V" } : Jvm.MethodName) prog_56_method_1_code (6 : Nat) (Option.none : Option Jvm.ClassFile.FieldType)).before args0 about1 = true := code_word (m := ⟨5, 0⟩) (meth := k5m0) (c := k5c0) (by decide +kernel) rfl rfl rfl (by decide +kernel)
set_option maxRecDepth 65536 in
theorem w_c9 : (Jvm.Cond.code ({ cls := "com/example/tallyward/tallyward/io/KeyFilter$Building", name := "blocks", desc := "()I" } : Jvm.MethodName) prog_57_method_3_code (1 : Nat) (Option.some Jvm.ClassFile.FieldType.int)).before args0 about1 = true := code_word (m := ⟨3, 1⟩) (meth := k3m1) (c := k3c1) (by decide +kernel) rfl rfl rfl (by decide +kernel)
set_option maxRecDepth 65536 in
theorem w_c10 : (Jvm.Cond.code ({ cls := "com/example/tallyward/tallyward/io/KeyFilter$Building", name := "words", desc := "(Z)[J" } : Jvm.MethodName) prog_57_method_4_code (9 : Nat) (Option.some (Jvm.ClassFile.FieldType.array Jvm.ClassFile.FieldType.long))).before args0 about1 = true := code_word (m := ⟨3, 2⟩) (meth := k3m2) (c := k3c2) (by decide +kernel) rfl rfl rfl (by decide +kernel)
set_option maxRecDepth 65536 in
theorem w_c11 : (Jvm.Cond.code ({ cls := "com/example/tallyward/tallyward/io/KeyFilter", name := "emptyCheck", desc := "(I)J" } : Jvm.MethodName) prog_55_method_6_code (1 : Nat) (Option.some Jvm.ClassFile.FieldType.long)).before args0 about1 = true := code_word (m := ⟨2, 2⟩) (meth := k2m2) (c := k2c2) (by decide +kernel) rfl rfl rfl (by decide +kernel)
set_option maxRecDepth 65536 in
theorem w_c12 : (Jvm.Cond.code ({ cls := "com/example/tallyward/tallyward/io/KeyFilter", name := "withWord", desc := "(JIJ)J" } : Jvm.MethodName) prog_55_method_7_code (5 : Nat) (Option.some Jvm.ClassFile.FieldType.long)).before args0 about1 = true := code_word (m := ⟨2, 3⟩) (meth := k2m3) (c := k2c3) (by decide +kernel) rfl rfl rfl (by decide +kernel)
def codes1 : List Jvm.Cond := [Jvm.Cond.code x code maxLocals ret, Jvm.Cond.code ({ cls := "com/example/tallyward/tallyward/io/KeyFilter", name := "bytes", desc := "(IZ)J" } : Jvm.MethodName) prog_55_method_3_code (2 : Nat) (Option.some Jvm.ClassFile.FieldType.long), Jvm.Cond.code ({ cls := "com/example/tallyward/tallyward/io/KeyFilter$Building", name := "<init>", desc := "(JJJ)V" } : Jvm.MethodName) prog_57_method_1_code (8 : Nat) (Option.none : Option Jvm.ClassFile.FieldType), Jvm.Cond.code ({ cls := "java/lang/Object", name := "<init>", desc := "()V" } : Jvm.MethodName) object_method_1_code (1 : Nat) (Option.none : Option Jvm.ClassFile.FieldType), Jvm.Cond.code ({ cls := "com/example/tallyward/tallyward/io/KeyFilter", name := "blocks", desc := "(J)I" } : Jvm.MethodName) prog_55_method_2_code (2 : Nat) (Option.some Jvm.ClassFile.FieldType.int), Jvm.Cond.code ({ cls := "java/lang/Math", name := "max", desc := "(JJ)J" } : Jvm.MethodName) jdk_29_method_66_code (4 : Nat) (Option.some Jvm.ClassFile.FieldType.long), Jvm.Cond.code ({ cls := "java/lang/Math", name := "toIntExact", desc := "(J)I" } : Jvm.MethodName) jdk_29_method_43_code (2 : Nat) (Option.some Jvm.ClassFile.FieldType.int), Jvm.Cond.code ({ cls := "java/lang/Math", name := "multiplyExact", desc := "(II)I" } : Jvm.MethodName) jdk_29_method_28_code (4 : Nat) (Option.some Jvm.ClassFile.FieldType.int), Jvm.Cond.code ({ cls := "com/example/tallyward/tallyward/io/KeyFilter$Blocks", name := "<init>", desc := "(IJJ)V" } : Jvm.MethodName) prog_56_method_1_code (6 : Nat) (Option.none : Option Jvm.ClassFile.FieldType), Jvm.Cond.code ({ cls := "com/example/tallyward/tallyward/io/KeyFilter$Building", name := "blocks", desc := "()I" } : Jvm.MethodName) prog_57_method_3_code (1 : Nat) (Option.some Jvm.ClassFile.FieldType.int), Jvm.Cond.code ({ cls := "com/example/tallyward/tallyward/io/KeyFilter$Building", name := "words", desc := "(Z)[J" } : Jvm.MethodName) prog_57_method_4_code (9 : Nat) (Option.some (Jvm.ClassFile.FieldType.array Jvm.ClassFile.FieldType.long)), Jvm.Cond.code ({ cls := "com/example/tallyward/tallyward/io/KeyFilter", name := "emptyCheck", desc := "(I)J" } : Jvm.MethodName) prog_55_method_6_code (1 : Nat) (Option.some Jvm.ClassFile.FieldType.long), Jvm.Cond.code ({ cls := "com/example/tallyward/tallyward/io/KeyFilter", name := "withWord", desc := "(JIJ)J" } : Jvm.MethodName) prog_55_method_7_code (5 : Nat) (Option.some Jvm.ClassFile.FieldType.long)]
set_option maxRecDepth 65536 in
theorem codes_eq : words1.filter isCode = codes1 := rfl
theorem w_codes : ∀ c ∈ words1.filter isCode, c.before args0 about1 = true := by
  rw [codes_eq]
  intro c hc
  simp only [codes1, List.mem_cons, List.not_mem_nil, or_false] at hc
  rcases hc with rfl | rfl | rfl | rfl | rfl | rfl | rfl | rfl | rfl | rfl | rfl | rfl | rfl
  · exact w_c0
  · exact w_c1
  · exact w_c2
  · exact w_c3
  · exact w_c4
  · exact w_c5
  · exact w_c6
  · exact w_c7
  · exact w_c8
  · exact w_c9
  · exact w_c10
  · exact w_c11
  · exact w_c12
set_option maxRecDepth 65536 in
theorem w_t1 : (words1.take 24).all (fun c => isCode c || c.before args0 about1) = true := by decide +kernel
set_option maxRecDepth 65536 in
theorem w_t2 : ((words1.drop 24).take 24).all (fun c => isCode c || c.before args0 about1) = true := by decide +kernel
set_option maxRecDepth 65536 in
theorem w_t3 : ((words1.drop 24).drop 24).all (fun c => isCode c || c.before args0 about1) = true := by decide +kernel
theorem w_tables : (allAtoms (Jvm.Cond.code x code maxLocals ret :: tables_1)).before args0 about1 = true := by
  rw [allAtoms_all]
  show words1.all (fun c => c.before args0 about1) = true
  refine all_split ?_ w_codes
  rw [← List.take_append_drop 24 words1, List.all_append, w_t1, ← List.take_append_drop 24 (words1.drop 24), List.all_append, w_t2, w_t3]
  rfl
set_option maxRecDepth 65536 in
theorem w_case : (Jvm.Cond.and given_1 narrow_1).before args0 about1 = true := by decide +kernel
theorem w_applies : (headSpec (Jvm.Cond.code x code maxLocals ret :: tables_1) room_1).applies x e0.platform about1 = true :=
  (Spec.applies_iff w_frames).mpr ⟨w_running, w_runnable, w_alone, w_named, w_hears, w_ripe, w_room, w_tables⟩
theorem atStart : AtStart classFile x code maxLocals ret World_1 tables_1 room_1 Calls_1 rest_1 Pre_1 launch0 p0 e0 about1 theMethod args0 below0 :=
  ⟨lists_1, trivial, launch0.admits_env _ _ _, launch0.least_env, fairChoices_fair.cas, fairChoices_fair.clock, w_frames, w_args, w_heap, w_applies, trivial, trivial, w_case⟩
end start1
theorem witness_1 : WitnessClaimed_1 := ⟨start1.p0, start1.e0, start1.about1, start1.theMethod, start1.args0, start1.below0, start1.atStart⟩
end Jvm.Pilot.@@N@@
