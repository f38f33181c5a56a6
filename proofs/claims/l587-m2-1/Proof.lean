import JvmDerived
import JvmDerived.Pilot.@@N@@Statement
import JvmDerived.Pilot.@@N@@Code
set_option linter.unusedVariables false
set_option linter.unusedSimpArgs false
namespace Jvm.Pilot.@@N@@
open Jvm Jvm.ClassFile Sem Op Lib Jvm.Free Jvm.Stand Jvm.LawKit Jvm.RoadKit Bundle Jvm.Pilot.@@N@@.Jvm.D
section OwnKit
variable {p : Program} {l : Launch} {e : Env} {R : Room} {s : State} {m : MethodId} {args : Array Value} {below : List Frame} {meth : Method} {c : Code} {T T' : State} {locs : List Loc} {cells slots ck sk : Nat} {Q : Option Value → Heap → List Loc → Prop} {g g' : JFrame}
/-- from the state T with the top frame g the body ends, and Q says how -/
def Goes (p : Program) (e : Env) (below : List Frame) (s : State) (ck sk : Nat) (Q : Option Value → Heap → List Loc → Prop) (T : State) (g : JFrame) : Prop :=
  ∃ s₂ o, Steps p.tables e below (T.setTop g) s₂ ∧ s₂.status = .running ∧ Ended s₂ below o ∧ ∃ v L, o = .returned v ∧ Q v s₂.heap L ∧ FrameEnd s o s₂ L ck sk
theorem go (h : ∀ t, Steps p.tables e below (T'.setTop g') t → Steps p.tables e below (T.setTop g) t) (k : Goes p e below s ck sk Q T' g') : Goes p e below s ck sk Q T g := by
  obtain ⟨s₂, o, h1, r⟩ := k
  exact ⟨s₂, o, h _ h1, r⟩
theorem goV (h : Steps p.tables e below (T.setTop g) (T'.setTop g')) (k : Goes p e below s ck sk Q T' g') : Goes p e below s ck sk Q T g := go (fun _ kt => h.trans kt) k
theorem goEq (h : g = g') (k : Goes p e below s ck sk Q T g') : Goes p e below s ck sk Q T g := h ▸ k
theorem goVia {T₂ : State} {g₂ : JFrame} (h : Goes p e below s ck sk Q T₂ g₂ → Goes p e below s ck sk Q T g) (k : Goes p e below s ck sk Q T₂ g₂) : Goes p e below s ck sk Q T g := h k
theorem goRetN (X : Stand p l e R s m args below meth c T locs cells slots) (hx : p.tables.exec = Jvm.exec) (hlk : meth.locks = false) {pc : Nat} {Ls : Array Slot} {z : Int32} {t : FieldType} {rest : List Value} (hret : meth.sig.returnType = some t) (ht : t = .boolean ∨ t = .byte ∨ t = .char ∨ t = .short) (hd : decode c.code pc = .ok (.ireturn, 1))
    (hq : Q (some (.int (nar t z))) T.heap locs) (h1 : cells ≤ ck) (h2 : slots ≤ sk) : Goes p e below s ck sk Q T (mkF m pc Ls (.int z :: rest)) := by
  obtain ⟨fs, hr, hrun, hended, hW, hsame⟩ := X.leave (v := some (.int (nar t z))) (fun h => by rw [hret] at h; cases h)
  exact ⟨_, _, retN X hx hret ht hd hr, hrun, hended, _, _, rfl, hq, ⟨_, rfl⟩, hW, hsame.mono h1 h2⟩
theorem goRetI (X : Stand p l e R s m args below meth c T locs cells slots) (hx : p.tables.exec = Jvm.exec) (hlk : meth.locks = false) {pc : Nat} {Ls : Array Slot} {z : Int32} {rest : List Value} (hret : meth.sig.returnType = some .int) (hd : decode c.code pc = .ok (.ireturn, 1))
    (hq : Q (some (.int z)) T.heap locs) (h1 : cells ≤ ck) (h2 : slots ≤ sk) : Goes p e below s ck sk Q T (mkF m pc Ls (.int z :: rest)) := by
  obtain ⟨fs, hr, hrun, hended, hW, hsame⟩ := X.leave (v := some (.int z)) (fun h => by rw [hret] at h; cases h)
  exact ⟨_, _, retOut X hx hret rfl (Or.inl ⟨rfl, Or.inl rfl, z, rfl⟩) hd hr, hrun, hended, _, _, rfl, hq, ⟨_, rfl⟩, hW, hsame.mono h1 h2⟩
theorem goRetJ (X : Stand p l e R s m args below meth c T locs cells slots) (hx : p.tables.exec = Jvm.exec) (hlk : meth.locks = false) {pc : Nat} {Ls : Array Slot} {z : Int64} {rest : List Value} (hret : meth.sig.returnType = some .long) (hd : decode c.code pc = .ok (.lreturn, 1))
    (hq : Q (some (.long z)) T.heap locs) (h1 : cells ≤ ck) (h2 : slots ≤ sk) : Goes p e below s ck sk Q T (mkF m pc Ls (.long z :: rest)) := by
  obtain ⟨fs, hr, hrun, hended, hW, hsame⟩ := X.leave (v := some (.long z)) (fun h => by rw [hret] at h; cases h)
  exact ⟨_, _, retOut X hx hret rfl (Or.inr (Or.inl ⟨rfl, rfl, z, rfl⟩)) hd hr, hrun, hended, _, _, rfl, hq, ⟨_, rfl⟩, hW, hsame.mono h1 h2⟩
theorem goRetA (X : Stand p l e R s m args below meth c T locs cells slots) (hx : p.tables.exec = Jvm.exec) (hlk : meth.locks = false) {pc : Nat} {Ls : Array Slot} {w : Value} {t : FieldType} {rest : List Value} (hret : meth.sig.returnType = some t) (ht : t.isReference = true) (hn : narrow t w = w) (hw : w.isRef = true) (hd : decode c.code pc = .ok (.areturn, 1))
    (hq : Q (some w) T.heap locs) (h1 : cells ≤ ck) (h2 : slots ≤ sk) : Goes p e below s ck sk Q T (mkF m pc Ls (w :: rest)) := by
  obtain ⟨fs, hr, hrun, hended, hW, hsame⟩ := X.leave (v := some w) (fun h => by rw [hret] at h; cases h)
  exact ⟨_, _, retOut X hx hret hn (Or.inr (Or.inr (Or.inr (Or.inr ⟨rfl, ht, hw⟩)))) hd hr, hrun, hended, _, _, rfl, hq, ⟨_, rfl⟩, hW, hsame.mono h1 h2⟩
theorem goRetV (X : Stand p l e R s m args below meth c T locs cells slots) (hx : p.tables.exec = Jvm.exec) (hlk : meth.locks = false) {pc : Nat} {Ls : Array Slot} (hret : meth.sig.returnType = none) (hd : decode c.code pc = .ok (.return_, 1))
    (hq : Q none T.heap locs) (h1 : cells ≤ ck) (h2 : slots ≤ sk) : Goes p e below s ck sk Q T (mkF m pc Ls []) := by
  obtain ⟨fs, hr, hrun, hended, hW, hsame⟩ := X.leave (v := none) (fun _ => rfl)
  exact ⟨_, _, X.returnOut hx hret hd hr, hrun, hended, _, _, rfl, hq, ⟨_, rfl⟩, hW, hsame.mono h1 h2⟩
theorem own_l0 {x y : Int64} (h : x = y) : ifCond.holds .eq (lcmpW x y) = true ∧ ifCond.holds .ne (lcmpW x y) = false := by rw [if0, if0]; exact teq ((lw_eq x y).mpr h)
theorem own_l1 {x y : Int64} (h : ¬ x = y) : ifCond.holds .eq (lcmpW x y) = false ∧ ifCond.holds .ne (lcmpW x y) = true := by rw [if0, if0]; exact feq fun q => h ((lw_eq x y).mp q)
theorem own_l2 {x y : Int64} (h : x < y) : ifCond.holds .lt (lcmpW x y) = true ∧ ifCond.holds .ge (lcmpW x y) = false := by rw [if0, if0]; exact ⟨(tlt ((lw_lt x y).mpr h)).1, (tlt ((lw_lt x y).mpr h)).2.1⟩
theorem own_l3 {x y : Int64} (h : ¬ x < y) : ifCond.holds .lt (lcmpW x y) = false ∧ ifCond.holds .ge (lcmpW x y) = true := by
  rw [if0, if0]
  have q : ¬ lcmpW x y < 0 := fun q => h ((lw_lt x y).mp q)
  exact ⟨(flt q).1, (flt q).2.1⟩
theorem own_l4 {x y : Int64} (h : y < x) : ifCond.holds .gt (lcmpW x y) = true ∧ ifCond.holds .le (lcmpW x y) = false := by rw [if0, if0]; exact ⟨(tlt ((lw_gt x y).mpr h)).2.2.1, (tlt ((lw_gt x y).mpr h)).2.2.2⟩
theorem own_l5 {x y : Int64} (h : ¬ y < x) : ifCond.holds .gt (lcmpW x y) = false ∧ ifCond.holds .le (lcmpW x y) = true := by
  rw [if0, if0]
  have q : ¬ 0 < lcmpW x y := fun q => h ((lw_gt x y).mp q)
  exact ⟨(flt q).2.2.1, (flt q).2.2.2⟩
end OwnKit
def own_max (x y : Int32) : Int32 := if x < y then y else x
def own_min (x y : Int32) : Int32 := if y < x then y else x
def own_ic (p : Int32) : Int32 := if p < 33 then 0 else if 126 < p then 0 else if p = 44 then 0 else 1
def own_ab (p : Int32) : Int32 := if p < 33 then 0 else if 126 < p then 0 else 1
def own_pr (v : Int32) : Int32 := if 32 < v then (if v < 127 then 1 else 0) else 0
def own_ch (x : Int32) : Int32 := ((x &&& 255).toUInt32.toUInt16.toUInt32.toInt32).toUInt32.toUInt16.toUInt32.toInt32
def own_b1 (c : Int32) : Int32 := (c.toInt8.toInt32).toInt8.toInt32
def own_u (x y : Int32) : Int32 := ((((x &&& 255) <<< ((0 : Int32) &&& 31)) ||| ((y &&& 255) <<< ((8 : Int32) &&& 31))).toUInt32.toUInt16.toUInt32.toInt32).toUInt32.toUInt16.toUInt32.toInt32
theorem own_ic_eq (v : Int32) : (if own_pr v = 0 then (0 : Int32) else if v = 44 then 0 else 1) = own_ic v := by
  have h1 : 32 < v ↔ ¬ v < 33 := by
    rw [Int32.lt_iff_toInt_lt, Int32.lt_iff_toInt_lt]; show (32 : Int) < _ ↔ ¬ _ < (33 : Int); omega
  have h2 : v < 127 ↔ ¬ 126 < v := by
    rw [Int32.lt_iff_toInt_lt, Int32.lt_iff_toInt_lt]; show _ < (127 : Int) ↔ ¬ (126 : Int) < _; omega
  unfold own_pr own_ic
  by_cases a : v < 33
  · have : ¬ 32 < v := fun q => h1.mp q a
    simp [a, this]
  · have k1 : 32 < v := h1.mpr a
    by_cases b : 126 < v
    · have : ¬ v < 127 := fun q => h2.mp q b
      simp [a, b, k1, this]
    · have k2 : v < 127 := h2.mpr b
      simp [a, b, k1, k2]
theorem own_ab_ic (p : Int32) : (if own_ab p = 0 then (0 : Int32) else if p = 44 then 0 else 1) = own_ic p := by
  unfold own_ab own_ic
  by_cases a : p < 33
  · simp [a]
  · by_cases b : 126 < p
    · simp [a, b]
    · simp [a, b]
theorem own_latin : ∀ k : Fin 256, own_ch (own_b1 (Int32.ofNat k.val)) = Int32.ofNat k.val ∧ (own_b1 (Int32.ofNat k.val) = 44 ↔ Int32.ofNat k.val = 44) := by decide +kernel
theorem own_nonneg (x : Int32) (h : 0 ≤ x.toInt) : x = Int32.ofNat x.toInt.toNat := by
  apply Int32.toInt_inj.mp
  have := x.toInt_lt
  rw [Int32.toInt_ofNat_of_lt (by omega)]; omega
theorem own_lat {p : Int32} (h0 : 0 ≤ p.toInt) (h : ¬ 255 < p) : own_ch (own_b1 p) = p ∧ (own_b1 p = 44 ↔ p = 44) := by
  have h1 : ¬ (255 : Int) < p.toInt := fun q => h (Int32.lt_iff_toInt_lt.mpr q)
  rw [own_nonneg p h0]
  exact own_latin ⟨p.toInt.toNat, by omega⟩
theorem own_big {p : Int32} (h : 255 < p) : own_ab p = 0 ∧ own_ic p = 0 := by
  have h1 : (255 : Int) < p.toInt := Int32.lt_iff_toInt_lt.mp h
  have a : ¬ p < 33 := fun q => by have : p.toInt < 33 := Int32.lt_iff_toInt_lt.mp q; omega
  have b : 126 < p := Int32.lt_iff_toInt_lt.mpr (by show (126 : Int) < _; omega)
  unfold own_ab own_ic; simp [a, b]
theorem own_tb : ∀ i : Fin 16, Nat.testBit 255 i.val = decide (i.val < 8) := by decide
theorem own_tbi {i : Nat} (h : i < 16) : Nat.testBit 255 i = decide (i < 8) := own_tb ⟨i, h⟩
theorem own_bits (u : BitVec 16) : ((((((((u.setWidth 32).sshiftRight 0).signExtend 8).signExtend 32).signExtend 8).signExtend 32 &&& 255#32) <<< 0 ||| ((((((u.setWidth 32).sshiftRight 8).signExtend 8).signExtend 32).signExtend 8).signExtend 32 &&& 255#32) <<< 8).setWidth 16).setWidth 32 = u.setWidth 32 := by
  apply BitVec.eq_of_getLsbD_eq
  intro i hi
  have hc : i = 0 ∨ i = 1 ∨ i = 2 ∨ i = 3 ∨ i = 4 ∨ i = 5 ∨ i = 6 ∨ i = 7 ∨ i = 8 ∨ i = 9 ∨ i = 10 ∨ i = 11 ∨ i = 12 ∨ i = 13 ∨ i = 14 ∨ i = 15 ∨ 16 ≤ i := by omega
  rcases hc with rfl | rfl | rfl | rfl | rfl | rfl | rfl | rfl | rfl | rfl | rfl | rfl | rfl | rfl | rfl | rfl | h
  all_goals simp only [BitVec.getLsbD_setWidth, BitVec.getLsbD_or, BitVec.getLsbD_and, BitVec.getLsbD_shiftLeft, BitVec.getLsbD_signExtend, BitVec.getLsbD_sshiftRight, BitVec.getLsbD_ofNat]
  · simp [own_tbi]
  · simp [own_tbi]
  · simp [own_tbi]
  · simp [own_tbi]
  · simp [own_tbi]
  · simp [own_tbi]
  · simp [own_tbi]
  · simp [own_tbi]
  · simp [own_tbi]
  · simp [own_tbi]
  · simp [own_tbi]
  · simp [own_tbi]
  · simp [own_tbi]
  · simp [own_tbi]
  · simp [own_tbi]
  · simp [own_tbi]
  · have h1 : ¬ i < 16 := by omega
    have h2 : u.getLsbD i = false := BitVec.getLsbD_of_ge u i h
    simp [h1, h2]
theorem own_uu {c : Int32} (h : ∃ x : Int32, c = x.toUInt32.toUInt16.toUInt32.toInt32) : own_u (((c >>> ((0 : Int32) &&& 31)).toInt8.toInt32).toInt8.toInt32) (((c >>> ((8 : Int32) &&& 31)).toInt8.toInt32).toInt8.toInt32) = c := by
  obtain ⟨x, rfl⟩ := h
  generalize x.toUInt32.toUInt16 = u
  have e0 : ((0 : Int32) &&& 31) = 0 := by decide
  have e8 : ((8 : Int32) &&& 31) = 8 := by decide
  rw [own_u, e0, e8]
  apply Int32.toBitVec_inj.mp
  have k := own_bits u.toBitVec
  have k2 : ∀ w : BitVec 32, ((((w.setWidth 16).setWidth 32).setWidth 16).setWidth 32) = (w.setWidth 16).setWidth 32 := fun w => by
    apply BitVec.eq_of_getLsbD_eq
    intro i hi
    simp only [BitVec.getLsbD_setWidth]
    by_cases h : i < 16 <;> simp [h]
  exact (k2 _).trans k
section OwnArr
variable {p : Program} {l : Launch} {e : Env} {R : Room} {s : State} {m : MethodId} {args : Array Value} {below : List Frame} {meth : Method} {c : Code} {T : State} {locs : List Loc} {cells slots : Nat} {Z : State} {h h' : Heap} {a b : Addr} {v : Value} {sl : Nat} {ty : FieldType} {n : Int32} {f f' : Nat → Value} {ws : List Addr}
/-- an array of n places: place i holds f i -/
def Aw (Z : State) (h : Heap) (a : Addr) (ty : FieldType) (n : Int32) (f : Nat → Value) : Prop := ∃ c : Cell, Arr Z h a c ty ∧ c.slots.size = n.toNatClampNeg ∧ ¬ n < 0 ∧ (∀ i, i < c.slots.size → c.slots[i]? = some (f i)) ∧ ∀ i, i < c.slots.size → fits ty (f i) = true
def upd (f : Nat → Value) (j : Nat) (v : Value) : Nat → Value := fun i => if i = j then v else f i
theorem Aw.lt (F : Aw Z h a ty n f) : a < h.size := by obtain ⟨c, A, -⟩ := F; exact A.lt
theorem Aw.ext (F : Aw Z h a ty n f) (E : Ext h h') : Aw Z h' a ty n f := by obtain ⟨c, A, r⟩ := F; exact ⟨c, A.ext E, r⟩
theorem Aw.other (F : Aw Z h b ty n f) (W : Wr h h' a sl v) (q : b ≠ a) : Aw Z h' b ty n f := by obtain ⟨c, A, r⟩ := F; exact ⟨c, A.other W q, r⟩
theorem Aw.keep (F : Aw Z h a ty n f) (K : Keep h h' ws) (q : a ∉ ws) : Aw Z h' a ty n f := by obtain ⟨c, A, r⟩ := F; exact ⟨c, ⟨K.2.1 a c A.1 q, A.2⟩, r⟩
theorem Aw.new {k : ClassId} (A : Arr Z h a (newA k ty n) ty) (q : ¬ n < 0) : Aw Z h a ty n (fun _ => defaultValue ty) := ⟨_, A, sz_new _ _ _, q, fun i hi => by rw [sz_new] at hi; simp [newA, hi], fun i _ => by cases ty <;> rfl⟩
theorem Aw.set (F : Aw Z h a ty n f) {j : Nat} (W : Wr h h' a j v) (hv : fits ty v = true) : Aw Z h' a ty n (upd f j v) := by
  obtain ⟨c, A, S, N, H, G⟩ := F
  refine ⟨_, A.same W, by rw [sz_set]; exact S, N, fun i hi => ?_, fun i hi => ?_⟩ <;> rw [sz_set] at hi <;> unfold upd <;> split
  · rename_i q; subst q; simp [Cell.setSlot, hi]
  · rename_i q; simp only [Cell.setSlot]; rw [Array.getElem?_setIfInBounds_ne (Ne.symm q)]; exact H i hi
  · exact hv
  · exact G i hi
theorem Aw.congr (F : Aw Z h a ty n f) (q : ∀ i, i < n.toNatClampNeg → f' i = f i) : Aw Z h a ty n f' := by
  obtain ⟨c, A, S, N, H, G⟩ := F
  exact ⟨c, A, S, N, fun i hi => by rw [q i (S ▸ hi)]; exact H i hi, fun i hi => by rw [q i (S ▸ hi)]; exact G i hi⟩
theorem Aw.nn (F : Aw Z h a ty n f) : ¬ n < 0 := by obtain ⟨c, A, S, N, -⟩ := F; exact N
theorem own_stI (X : Stand p l e R s m args below meth c T locs cells slots) (hx : p.tables.exec = Jvm.exec) (hZ : Z.Warmed39 s.vm) (eT : T.heap = h) (F : Aw Z h a .int n f) {j x : Int32} (hj : ¬ j < 0 ∧ j < n) {g : JFrame} (hg : g.method = m) {rest : List Value} (hs : g.stack = .int x :: .int j :: .ref a :: rest) (hd : decode c.code g.pc = .ok (.iastore, 1)) :
    ∃ T' h', Stand p l e R s m args below meth c T' (locs ++ [⟨a, j.toNatClampNeg⟩]) cells slots ∧ T'.heap = h' ∧ Wr h h' a j.toNatClampNeg (.int x) ∧ Aw Z h' a .int n (upd f j.toNatClampNeg (.int x)) ∧ ∀ target, Steps p.tables e below (T'.setTop { g with pc := g.pc + 1, stack := rest }) target → Steps p.tables e below (T.setTop g) target := by
  obtain ⟨cl, A, S, r⟩ := F
  obtain ⟨T', h', X', e', W, st⟩ := stI X hx hZ eT A (inb_of S hj) hg hs hd
  exact ⟨T', h', X', e', W, Aw.set ⟨cl, A, S, r⟩ W rfl, st⟩
theorem own_stJ (X : Stand p l e R s m args below meth c T locs cells slots) (hx : p.tables.exec = Jvm.exec) (hZ : Z.Warmed39 s.vm) (eT : T.heap = h) (F : Aw Z h a .long n f) {j : Int32} {x : Int64} (hj : ¬ j < 0 ∧ j < n) {g : JFrame} (hg : g.method = m) {rest : List Value} (hs : g.stack = .long x :: .int j :: .ref a :: rest) (hd : decode c.code g.pc = .ok (.lastore, 1)) :
    ∃ T' h', Stand p l e R s m args below meth c T' (locs ++ [⟨a, j.toNatClampNeg⟩]) cells slots ∧ T'.heap = h' ∧ Wr h h' a j.toNatClampNeg (.long x) ∧ Aw Z h' a .long n (upd f j.toNatClampNeg (.long x)) ∧ ∀ target, Steps p.tables e below (T'.setTop { g with pc := g.pc + 1, stack := rest }) target → Steps p.tables e below (T.setTop g) target := by
  obtain ⟨cl, A, S, r⟩ := F
  obtain ⟨T', h', X', e', W, st⟩ := stJ X hx hZ eT A (inb_of S hj) hg hs hd
  exact ⟨T', h', X', e', W, Aw.set ⟨cl, A, S, r⟩ W rfl, st⟩
theorem own_stB (X : Stand p l e R s m args below meth c T locs cells slots) (hx : p.tables.exec = Jvm.exec) (hZ : Z.Warmed39 s.vm) (eT : T.heap = h) (F : Aw Z h a .byte n f) {j x : Int32} (hj : ¬ j < 0 ∧ j < n) {g : JFrame} (hg : g.method = m) {rest : List Value} (hs : g.stack = .int x :: .int j :: .ref a :: rest) (hd : decode c.code g.pc = .ok (.bastore, 1)) :
    ∃ T' h', Stand p l e R s m args below meth c T' (locs ++ [⟨a, j.toNatClampNeg⟩]) cells slots ∧ T'.heap = h' ∧ Wr h h' a j.toNatClampNeg (.int x.toInt8.toInt32) ∧ Aw Z h' a .byte n (upd f j.toNatClampNeg (.int x.toInt8.toInt32)) ∧ ∀ target, Steps p.tables e below (T'.setTop { g with pc := g.pc + 1, stack := rest }) target → Steps p.tables e below (T.setTop g) target := by
  obtain ⟨cl, A, S, r⟩ := F
  obtain ⟨T', h', X', e', W, st⟩ := stB X hx hZ eT A (inb_of S hj) hg hs hd
  exact ⟨T', h', X', e', W, Aw.set ⟨cl, A, S, r⟩ W (fits_nar_byte _), st⟩
theorem own_len (X : Stand p l e R s m args below meth c T locs cells slots) (hx : p.tables.exec = Jvm.exec) (hZ : Z.Warmed39 s.vm) (eT : T.heap = h) (F : Aw Z h a ty n f) {g : JFrame} (hg : g.method = m) {rest : List Value} (hs : g.stack = .ref a :: rest) (hd : decode c.code g.pc = .ok (.arraylength, 1)) (target : State)
    (k : Steps p.tables e below (T.setTop { g with pc := g.pc + 1, stack := .int n :: rest }) target) : Steps p.tables e below (T.setTop g) target := by
  obtain ⟨cl, A, S, N, -⟩ := F
  refine X.arraylength hx (by rw [eT]; exact A.1) (State.isArrayOf_alike hZ.alike A.2.1) hg hs hd _ ?_
  rw [len_of S N]; exact k
theorem own_ldI (X : Stand p l e R s m args below meth c T locs cells slots) (hx : p.tables.exec = Jvm.exec) (hZ : Z.Warmed39 s.vm) (eT : T.heap = h) (F : Aw Z h a .int n f) {j : Int32} (hj : ¬ j < 0 ∧ j < n) (hv : f j.toNatClampNeg = v) {g : JFrame} (hg : g.method = m) {rest : List Value} (hs : g.stack = .int j :: .ref a :: rest) (hd : decode c.code g.pc = .ok (.iaload, 1)) (target : State)
    (k : Steps p.tables e below (T.setTop { g with pc := g.pc + 1, stack := v :: rest }) target) : Steps p.tables e below (T.setTop g) target := by
  obtain ⟨cl, A, S, N, H, -⟩ := F
  have hin := inb_of S hj
  exact X.iaload hx (by rw [eT]; exact A.1) (State.isArrayOf_alike hZ.alike A.2.1) A.2.2 hin (hv ▸ H _ (Nat.lt_of_not_le fun q => hin (Or.inr q))) hg hs hd _ k
theorem own_ldJ (X : Stand p l e R s m args below meth c T locs cells slots) (hx : p.tables.exec = Jvm.exec) (hZ : Z.Warmed39 s.vm) (eT : T.heap = h) (F : Aw Z h a .long n f) {j : Int32} (hj : ¬ j < 0 ∧ j < n) (hv : f j.toNatClampNeg = v) {g : JFrame} (hg : g.method = m) {rest : List Value} (hs : g.stack = .int j :: .ref a :: rest) (hd : decode c.code g.pc = .ok (.laload, 1)) (target : State)
    (k : Steps p.tables e below (T.setTop { g with pc := g.pc + 1, stack := v :: rest }) target) : Steps p.tables e below (T.setTop g) target := by
  obtain ⟨cl, A, S, N, H, -⟩ := F
  have hin := inb_of S hj
  exact X.laload hx (by rw [eT]; exact A.1) (State.isArrayOf_alike hZ.alike A.2.1) A.2.2 hin (hv ▸ H _ (Nat.lt_of_not_le fun q => hin (Or.inr q))) hg hs hd _ k
theorem own_ldB (X : Stand p l e R s m args below meth c T locs cells slots) (hx : p.tables.exec = Jvm.exec) (hZ : Z.Warmed39 s.vm) (eT : T.heap = h) (F : Aw Z h a .byte n f) {j : Int32} (hj : ¬ j < 0 ∧ j < n) (hv : f j.toNatClampNeg = v) {g : JFrame} (hg : g.method = m) {rest : List Value} (hs : g.stack = .int j :: .ref a :: rest) (hd : decode c.code g.pc = .ok (.baload, 1)) (target : State)
    (k : Steps p.tables e below (T.setTop { g with pc := g.pc + 1, stack := v :: rest }) target) : Steps p.tables e below (T.setTop g) target := by
  obtain ⟨cl, A, S, N, H, -⟩ := F
  have hin := inb_of S hj
  exact X.baloadBytes hx (by rw [eT]; exact A.1) (State.isArrayOf_alike hZ.alike A.2.1) A.2.2 hin (hv ▸ H _ (Nat.lt_of_not_le fun q => hin (Or.inr q))) hg hs hd _ k
end OwnArr
theorem own_char (x : Int32) : 0 ≤ x.toUInt32.toUInt16.toUInt32.toInt32.toInt := by
  have h := fits_nar_char x
  simp only [nar, fits, Bool.and_eq_true, decide_eq_true_eq] at h
  have := Int32.le_iff_toInt_le.mp (of_decide_eq_true h.1)
  simpa using this
theorem own_eqI {args : Array Value} {first s : State} {o : Option Outcome} {idx : List Nat} {t : Term} {k : Int32} (h : (Jvm.Cond.eq t (Term.int k)).value args first o s idx = some true) : t.eval args first o idx s = some (.int k) := by
  simp only [Jvm.Cond.value, Term.int_eval] at h
  cases ht : t.eval args first o idx s with
  | none => simp [ht] at h
  | some x => cases x <;> simp [ht] at h ⊢; exact h

theorem d22_0 : decode jdk_29_method_65_code 0 = .ok (.iload_n 0, 1) := by decide +kernel
theorem d22_1 : decode jdk_29_method_65_code 1 = .ok (.iload_n 1, 1) := by decide +kernel
theorem d22_2 : decode jdk_29_method_65_code 2 = .ok (.if_icmp .lt 7, 3) := by decide +kernel
theorem d22_5 : decode jdk_29_method_65_code 5 = .ok (.iload_n 0, 1) := by decide +kernel
theorem d22_6 : decode jdk_29_method_65_code 6 = .ok (.goto 4, 3) := by decide +kernel
theorem d22_9 : decode jdk_29_method_65_code 9 = .ok (.iload_n 1, 1) := by decide +kernel
theorem d22_10 : decode jdk_29_method_65_code 10 = .ok (.ireturn, 1) := by decide +kernel
theorem ef_22 (m : MethodId) (p1 : Int32) (p2 : Int32) : entryFrame m #[(.int p1), (.int p2)] 2 = mkF m 0 #[.val (.int p1), .val (.int p2)] [] := by first | (simp [entryFrame, mkF, argsToLocals, Value.category]; done) | rfl
def Q22 (Z : State) (p1 : Int32) (p2 : Int32) (h0 : Heap) (n0 : Nat) (v : Option Value) (h : Heap) (L : List Loc) : Prop := v = some (.int (own_max p1 p2)) ∧ Fr n0 L ∧ h = h0
set_option maxRecDepth 65536 in
set_option maxHeartbeats 40000000 in
theorem rm22 (l : Launch) (Z : State) (a0 : Array Value) (hw : ∀ d ∈ tables_1, d.before a0 Z = true) (ws : List Jvm.Cond) (p1 : Int32) (p2 : Int32) (h0 : Heap) (n0 : Nat) (Z0 : n0 ≤ h0.size)  :
    MetFree l (⟨"java/lang/Math", "max", "(II)I"⟩ : MethodName) (head1 (Jvm.Cond.code (⟨"java/lang/Math", "max", "(II)I"⟩ : MethodName) jdk_29_method_65_code 2 (some .int) :: ws) ({ frames := 0, cells := 0, slots := 0, locals := 0 } : Room)) (fun a U => a = #[(.int p1), (.int p2)] ∧ Z.Warmed39 U.vm ∧ U.heap = h0) (fun _ _ _ _ _ => True) (fun _ U o U' => ∃ v L, o = .returned v ∧ Q22 Z p1 p2 h0 n0 v U'.heap L ∧ FrameEnd U o U' L ({ frames := 0, cells := 0, slots := 0, locals := 0 } : Room).cells ({ frames := 0, cells := 0, slots := 0, locals := 0 } : Room).slots) := by
  refine MetFree.of_bodySF (Jvm.Free.JP.mathPlain rfl (by decide +kernel)) hisR ?_
  intro p e s m args below meth c s₁ Bd hml0 hP hK
  obtain ⟨rfl, hZ, hh⟩ := hP
  have hx := Bd.exec
  have hby := Bd.bytes
  have hlk := Bd.notSynchronized
  have hml : c.maxLocals = 2 := hml0
  have hown : s.vm.findClass "java/lang/Math" = some m.cls := findClass_of_methodNamed Bd.named
  have hnm := (name_of_methodNamed Bd.named Bd.method).1
  have X0 : Stand p l e ({ frames := 0, cells := 0, slots := 0, locals := 0 } : Room) s m #[(.int p1), (.int p2)] below meth c s₁ [] 0 0 := Stand.of_body Bd
  have e0 : s₁.heap = h0 := by rw [← hh, Bd.state]; rfl
  have N0 := Fr.nil n0
  show Goes p e below s 0 0 (Q22 Z p1 p2 h0 n0) s₁ (entryFrame m #[(.int p1), (.int p2)] 2)
  refine goEq (ef_22 m p1 p2) ?_
  refine go (T' := s₁) (g' := (mkF m 1 #[.val (.int p1), .val (.int p2)] [(.int p1)])) (fun t kt => XS.iloadN X0.here hx rfl (hb hby d22_0) rfl kt) ?_
  refine go (T' := s₁) (g' := (mkF m 2 #[.val (.int p1), .val (.int p2)] [(.int p2), (.int p1)])) (fun t kt => XS.iloadN X0.here hx rfl (hb hby d22_1) rfl kt) ?_
  by_cases hc : p1 < p2
  · refine go (T' := s₁) (g' := (mkF m 9 #[.val (.int p1), .val (.int p2)] [])) (fun t kt => XS.icmpYes X0.here hx rfl (pc0 := 2) (pc' := 9) rfl (hb hby d22_2) rfl (tlt hc).1 (by decide) (by decide) kt) ?_
    refine go (T' := s₁) (g' := (mkF m 10 #[.val (.int p1), .val (.int p2)] [(.int p2)])) (fun t kt => XS.iloadN X0.here hx rfl (hb hby d22_9) rfl kt) ?_
    refine goRetI X0 hx hlk Bd.returns (hb hby d22_10) ?_ (by decide) (by decide)
    rw [e0]
    exact ⟨by rw [own_max, if_pos hc], N0, rfl⟩
  · refine go (T' := s₁) (g' := (mkF m 5 #[.val (.int p1), .val (.int p2)] [])) (fun t kt => XS.icmpNo X0.here hx rfl (hb hby d22_2) rfl (flt hc).1 kt) ?_
    refine go (T' := s₁) (g' := (mkF m 6 #[.val (.int p1), .val (.int p2)] [(.int p1)])) (fun t kt => XS.iloadN X0.here hx rfl (hb hby d22_5) rfl kt) ?_
    refine go (T' := s₁) (g' := (mkF m 10 #[.val (.int p1), .val (.int p2)] [(.int p1)])) (fun t kt => XS.goto X0.here hx rfl (pc0 := 6) (pc' := 10) rfl (hb hby d22_6) (by decide) (by decide) kt) ?_
    refine goRetI X0 hx hlk Bd.returns (hb hby d22_10) ?_ (by decide) (by decide)
    rw [e0]
    exact ⟨by rw [own_max, if_neg hc], N0, rfl⟩
theorem d23_0 : decode jdk_29_method_69_code 0 = .ok (.iload_n 0, 1) := by decide +kernel
theorem d23_1 : decode jdk_29_method_69_code 1 = .ok (.iload_n 1, 1) := by decide +kernel
theorem d23_2 : decode jdk_29_method_69_code 2 = .ok (.if_icmp .gt 7, 3) := by decide +kernel
theorem d23_5 : decode jdk_29_method_69_code 5 = .ok (.iload_n 0, 1) := by decide +kernel
theorem d23_6 : decode jdk_29_method_69_code 6 = .ok (.goto 4, 3) := by decide +kernel
theorem d23_9 : decode jdk_29_method_69_code 9 = .ok (.iload_n 1, 1) := by decide +kernel
theorem d23_10 : decode jdk_29_method_69_code 10 = .ok (.ireturn, 1) := by decide +kernel
theorem ef_23 (m : MethodId) (p1 : Int32) (p2 : Int32) : entryFrame m #[(.int p1), (.int p2)] 2 = mkF m 0 #[.val (.int p1), .val (.int p2)] [] := by first | (simp [entryFrame, mkF, argsToLocals, Value.category]; done) | rfl
def Q23 (Z : State) (p1 : Int32) (p2 : Int32) (h0 : Heap) (n0 : Nat) (v : Option Value) (h : Heap) (L : List Loc) : Prop := v = some (.int (own_min p1 p2)) ∧ Fr n0 L ∧ h = h0
set_option maxRecDepth 65536 in
set_option maxHeartbeats 40000000 in
theorem rm23 (l : Launch) (Z : State) (a0 : Array Value) (hw : ∀ d ∈ tables_1, d.before a0 Z = true) (ws : List Jvm.Cond) (p1 : Int32) (p2 : Int32) (h0 : Heap) (n0 : Nat) (Z0 : n0 ≤ h0.size)  :
    MetFree l (⟨"java/lang/Math", "min", "(II)I"⟩ : MethodName) (head1 (Jvm.Cond.code (⟨"java/lang/Math", "min", "(II)I"⟩ : MethodName) jdk_29_method_69_code 2 (some .int) :: ws) ({ frames := 0, cells := 0, slots := 0, locals := 0 } : Room)) (fun a U => a = #[(.int p1), (.int p2)] ∧ Z.Warmed39 U.vm ∧ U.heap = h0) (fun _ _ _ _ _ => True) (fun _ U o U' => ∃ v L, o = .returned v ∧ Q23 Z p1 p2 h0 n0 v U'.heap L ∧ FrameEnd U o U' L ({ frames := 0, cells := 0, slots := 0, locals := 0 } : Room).cells ({ frames := 0, cells := 0, slots := 0, locals := 0 } : Room).slots) := by
  refine MetFree.of_bodySF (Jvm.Free.JP.mathPlain rfl (by decide +kernel)) hisR ?_
  intro p e s m args below meth c s₁ Bd hml0 hP hK
  obtain ⟨rfl, hZ, hh⟩ := hP
  have hx := Bd.exec
  have hby := Bd.bytes
  have hlk := Bd.notSynchronized
  have hml : c.maxLocals = 2 := hml0
  have hown : s.vm.findClass "java/lang/Math" = some m.cls := findClass_of_methodNamed Bd.named
  have hnm := (name_of_methodNamed Bd.named Bd.method).1
  have X0 : Stand p l e ({ frames := 0, cells := 0, slots := 0, locals := 0 } : Room) s m #[(.int p1), (.int p2)] below meth c s₁ [] 0 0 := Stand.of_body Bd
  have e0 : s₁.heap = h0 := by rw [← hh, Bd.state]; rfl
  have N0 := Fr.nil n0
  show Goes p e below s 0 0 (Q23 Z p1 p2 h0 n0) s₁ (entryFrame m #[(.int p1), (.int p2)] 2)
  refine goEq (ef_23 m p1 p2) ?_
  refine go (T' := s₁) (g' := (mkF m 1 #[.val (.int p1), .val (.int p2)] [(.int p1)])) (fun t kt => XS.iloadN X0.here hx rfl (hb hby d23_0) rfl kt) ?_
  refine go (T' := s₁) (g' := (mkF m 2 #[.val (.int p1), .val (.int p2)] [(.int p2), (.int p1)])) (fun t kt => XS.iloadN X0.here hx rfl (hb hby d23_1) rfl kt) ?_
  by_cases hc : p2 < p1
  · refine go (T' := s₁) (g' := (mkF m 9 #[.val (.int p1), .val (.int p2)] [])) (fun t kt => XS.icmpYes X0.here hx rfl (pc0 := 2) (pc' := 9) rfl (hb hby d23_2) rfl (tlt hc).2.2.1 (by decide) (by decide) kt) ?_
    refine go (T' := s₁) (g' := (mkF m 10 #[.val (.int p1), .val (.int p2)] [(.int p2)])) (fun t kt => XS.iloadN X0.here hx rfl (hb hby d23_9) rfl kt) ?_
    refine goRetI X0 hx hlk Bd.returns (hb hby d23_10) ?_ (by decide) (by decide)
    rw [e0]
    exact ⟨by rw [own_min, if_pos hc], N0, rfl⟩
  · refine go (T' := s₁) (g' := (mkF m 5 #[.val (.int p1), .val (.int p2)] [])) (fun t kt => XS.icmpNo X0.here hx rfl (hb hby d23_2) rfl (flt hc).2.2.1 kt) ?_
    refine go (T' := s₁) (g' := (mkF m 6 #[.val (.int p1), .val (.int p2)] [(.int p1)])) (fun t kt => XS.iloadN X0.here hx rfl (hb hby d23_5) rfl kt) ?_
    refine go (T' := s₁) (g' := (mkF m 10 #[.val (.int p1), .val (.int p2)] [(.int p1)])) (fun t kt => XS.goto X0.here hx rfl (pc0 := 6) (pc' := 10) rfl (hb hby d23_6) (by decide) (by decide) kt) ?_
    refine goRetI X0 hx hlk Bd.returns (hb hby d23_10) ?_ (by decide) (by decide)
    rw [e0]
    exact ⟨by rw [own_min, if_neg hc], N0, rfl⟩
theorem d1_0 : decode prog_116_method_8_code 0 = .ok (.iload_n 0, 1) := by decide +kernel
theorem d1_1 : decode prog_116_method_8_code 1 = .ok (.bipush 33, 2) := by decide +kernel
theorem d1_3 : decode prog_116_method_8_code 3 = .ok (.if_icmp .lt 19, 3) := by decide +kernel
theorem d1_6 : decode prog_116_method_8_code 6 = .ok (.iload_n 0, 1) := by decide +kernel
theorem d1_7 : decode prog_116_method_8_code 7 = .ok (.bipush 126, 2) := by decide +kernel
theorem d1_9 : decode prog_116_method_8_code 9 = .ok (.if_icmp .gt 13, 3) := by decide +kernel
theorem d1_12 : decode prog_116_method_8_code 12 = .ok (.iload_n 0, 1) := by decide +kernel
theorem d1_13 : decode prog_116_method_8_code 13 = .ok (.bipush 44, 2) := by decide +kernel
theorem d1_15 : decode prog_116_method_8_code 15 = .ok (.if_icmp .eq 7, 3) := by decide +kernel
theorem d1_18 : decode prog_116_method_8_code 18 = .ok (.iconst 1, 1) := by decide +kernel
theorem d1_19 : decode prog_116_method_8_code 19 = .ok (.goto 4, 3) := by decide +kernel
theorem d1_22 : decode prog_116_method_8_code 22 = .ok (.iconst 0, 1) := by decide +kernel
theorem d1_23 : decode prog_116_method_8_code 23 = .ok (.ireturn, 1) := by decide +kernel
theorem pn_1 : plainName "com/example/tallyward/tallyward/model/Codes" = true := by first | (simp [plainName, overriddenIn]; done) | decide +kernel
theorem ef_1 (m : MethodId) (p1 : Int32) : entryFrame m #[(.int p1)] 1 = mkF m 0 #[.val (.int p1)] [] := by first | (simp [entryFrame, mkF, argsToLocals, Value.category]; done) | rfl
def Q1 (Z : State) (p1 : Int32) (h0 : Heap) (n0 : Nat) (v : Option Value) (h : Heap) (L : List Loc) : Prop := v = some (.int (own_ic p1)) ∧ Fr n0 L ∧ h = h0
set_option maxRecDepth 65536 in
set_option maxHeartbeats 40000000 in
theorem rm1 (l : Launch) (Z : State) (a0 : Array Value) (hw : ∀ d ∈ tables_1, d.before a0 Z = true) (ws : List Jvm.Cond) (p1 : Int32) (h0 : Heap) (n0 : Nat) (Z0 : n0 ≤ h0.size)  :
    MetFree l (⟨"com/example/tallyward/tallyward/model/Codes", "isCode", "(C)Z"⟩ : MethodName) (head1 (Jvm.Cond.code (⟨"com/example/tallyward/tallyward/model/Codes", "isCode", "(C)Z"⟩ : MethodName) prog_116_method_8_code 1 (some .boolean) :: ws) ({ frames := 0, cells := 0, slots := 0, locals := 0 } : Room)) (fun a U => a = #[(.int p1)] ∧ Z.Warmed39 U.vm ∧ U.heap = h0) (fun _ _ _ _ _ => True) (fun _ U o U' => ∃ v L, o = .returned v ∧ Q1 Z p1 h0 n0 v U'.heap L ∧ FrameEnd U o U' L ({ frames := 0, cells := 0, slots := 0, locals := 0 } : Room).cells ({ frames := 0, cells := 0, slots := 0, locals := 0 } : Room).slots) := by
  refine MetFree.of_bodySF (plainFor_of_name pn_1) hisR ?_
  intro p e s m args below meth c s₁ Bd hml0 hP hK
  obtain ⟨rfl, hZ, hh⟩ := hP
  have hx := Bd.exec
  have hby := Bd.bytes
  have hlk := Bd.notSynchronized
  have hml : c.maxLocals = 1 := hml0
  have hown : s.vm.findClass "com/example/tallyward/tallyward/model/Codes" = some m.cls := findClass_of_methodNamed Bd.named
  have hnm := (name_of_methodNamed Bd.named Bd.method).1
  have X0 : Stand p l e ({ frames := 0, cells := 0, slots := 0, locals := 0 } : Room) s m #[(.int p1)] below meth c s₁ [] 0 0 := Stand.of_body Bd
  have e0 : s₁.heap = h0 := by rw [← hh, Bd.state]; rfl
  have N0 := Fr.nil n0
  show Goes p e below s 0 0 (Q1 Z p1 h0 n0) s₁ (entryFrame m #[(.int p1)] 1)
  refine goEq (ef_1 m p1) ?_
  refine go (T' := s₁) (g' := (mkF m 1 #[.val (.int p1)] [(.int p1)])) (fun t kt => XS.iloadN X0.here hx rfl (hb hby d1_0) rfl kt) ?_
  refine go (T' := s₁) (g' := (mkF m 3 #[.val (.int p1)] [(.int (33 : Int32)), (.int p1)])) (fun t kt => XS.bipush X0.here hx rfl (hb hby d1_1) kt) ?_
  by_cases h1 : p1 < (33 : Int32)
  · refine go (T' := s₁) (g' := (mkF m 22 #[.val (.int p1)] [])) (fun t kt => XS.icmpYes X0.here hx rfl (pc0 := 3) (pc' := 22) rfl (hb hby d1_3) rfl (tlt h1).1 (by decide) (by decide) kt) ?_
    refine go (T' := s₁) (g' := (mkF m 23 #[.val (.int p1)] [(.int (0 : Int32))])) (fun t kt => XS.iconst X0.here hx rfl (hb hby d1_22) kt) ?_
    refine goRetN X0 hx hlk (t := .boolean) Bd.returns (by simp) (hb hby d1_23) ?_ (by decide) (by decide)
    rw [e0]
    exact ⟨by rw [own_ic, if_pos h1]; rfl, N0, rfl⟩
  · refine go (T' := s₁) (g' := (mkF m 6 #[.val (.int p1)] [])) (fun t kt => XS.icmpNo X0.here hx rfl (hb hby d1_3) rfl (flt h1).1 kt) ?_
    refine go (T' := s₁) (g' := (mkF m 7 #[.val (.int p1)] [(.int p1)])) (fun t kt => XS.iloadN X0.here hx rfl (hb hby d1_6) rfl kt) ?_
    refine go (T' := s₁) (g' := (mkF m 9 #[.val (.int p1)] [(.int (126 : Int32)), (.int p1)])) (fun t kt => XS.bipush X0.here hx rfl (hb hby d1_7) kt) ?_
    by_cases h2 : (126 : Int32) < p1
    · refine go (T' := s₁) (g' := (mkF m 22 #[.val (.int p1)] [])) (fun t kt => XS.icmpYes X0.here hx rfl (pc0 := 9) (pc' := 22) rfl (hb hby d1_9) rfl (tlt h2).2.2.1 (by decide) (by decide) kt) ?_
      refine go (T' := s₁) (g' := (mkF m 23 #[.val (.int p1)] [(.int (0 : Int32))])) (fun t kt => XS.iconst X0.here hx rfl (hb hby d1_22) kt) ?_
      refine goRetN X0 hx hlk (t := .boolean) Bd.returns (by simp) (hb hby d1_23) ?_ (by decide) (by decide)
      rw [e0]
      exact ⟨by rw [own_ic, if_neg h1, if_pos h2]; rfl, N0, rfl⟩
    · refine go (T' := s₁) (g' := (mkF m 12 #[.val (.int p1)] [])) (fun t kt => XS.icmpNo X0.here hx rfl (hb hby d1_9) rfl (flt h2).2.2.1 kt) ?_
      refine go (T' := s₁) (g' := (mkF m 13 #[.val (.int p1)] [(.int p1)])) (fun t kt => XS.iloadN X0.here hx rfl (hb hby d1_12) rfl kt) ?_
      refine go (T' := s₁) (g' := (mkF m 15 #[.val (.int p1)] [(.int (44 : Int32)), (.int p1)])) (fun t kt => XS.bipush X0.here hx rfl (hb hby d1_13) kt) ?_
      by_cases h3 : p1 = (44 : Int32)
      · refine go (T' := s₁) (g' := (mkF m 22 #[.val (.int p1)] [])) (fun t kt => XS.icmpYes X0.here hx rfl (pc0 := 15) (pc' := 22) rfl (hb hby d1_15) rfl (teq h3).1 (by decide) (by decide) kt) ?_
        refine go (T' := s₁) (g' := (mkF m 23 #[.val (.int p1)] [(.int (0 : Int32))])) (fun t kt => XS.iconst X0.here hx rfl (hb hby d1_22) kt) ?_
        refine goRetN X0 hx hlk (t := .boolean) Bd.returns (by simp) (hb hby d1_23) ?_ (by decide) (by decide)
        rw [e0]
        exact ⟨by rw [own_ic, if_neg h1, if_neg h2, if_pos h3]; rfl, N0, rfl⟩
      · refine go (T' := s₁) (g' := (mkF m 18 #[.val (.int p1)] [])) (fun t kt => XS.icmpNo X0.here hx rfl (hb hby d1_15) rfl (feq h3).1 kt) ?_
        refine go (T' := s₁) (g' := (mkF m 19 #[.val (.int p1)] [(.int (1 : Int32))])) (fun t kt => XS.iconst X0.here hx rfl (hb hby d1_18) kt) ?_
        refine go (T' := s₁) (g' := (mkF m 23 #[.val (.int p1)] [(.int (1 : Int32))])) (fun t kt => XS.goto X0.here hx rfl (pc0 := 19) (pc' := 23) rfl (hb hby d1_19) (by decide) (by decide) kt) ?_
        refine goRetN X0 hx hlk (t := .boolean) Bd.returns (by simp) (hb hby d1_23) ?_ (by decide) (by decide)
        rw [e0]
        exact ⟨by rw [own_ic, if_neg h1, if_neg h2, if_neg h3]; rfl, N0, rfl⟩
theorem d3_0 : decode jdk_43_method_3_code 0 = .ok (.iload_n 0, 1) := by decide +kernel
theorem d3_1 : decode jdk_43_method_3_code 1 = .ok (.sipush 255, 3) := by decide +kernel
theorem d3_4 : decode jdk_43_method_3_code 4 = .ok (.if_icmp .gt 7, 3) := by decide +kernel
theorem d3_7 : decode jdk_43_method_3_code 7 = .ok (.iconst 1, 1) := by decide +kernel
theorem d3_8 : decode jdk_43_method_3_code 8 = .ok (.goto 4, 3) := by decide +kernel
theorem d3_11 : decode jdk_43_method_3_code 11 = .ok (.iconst 0, 1) := by decide +kernel
theorem d3_12 : decode jdk_43_method_3_code 12 = .ok (.ireturn, 1) := by decide +kernel
theorem pn_3 : plainName "java/lang/StringLatin1" = true := by first | (simp [plainName, overriddenIn]; done) | decide +kernel
theorem ef_3 (m : MethodId) (p1 : Int32) : entryFrame m #[(.int p1)] 1 = mkF m 0 #[.val (.int p1)] [] := by first | (simp [entryFrame, mkF, argsToLocals, Value.category]; done) | rfl
def Q3 (Z : State) (p1 : Int32) (h0 : Heap) (n0 : Nat) (v : Option Value) (h : Heap) (L : List Loc) : Prop := v = some (.int (if 255 < p1 then 0 else 1)) ∧ Fr n0 L ∧ h = h0
set_option maxRecDepth 65536 in
set_option maxHeartbeats 40000000 in
theorem rm3 (l : Launch) (Z : State) (a0 : Array Value) (hw : ∀ d ∈ tables_1, d.before a0 Z = true) (ws : List Jvm.Cond) (p1 : Int32) (h0 : Heap) (n0 : Nat) (Z0 : n0 ≤ h0.size)  :
    MetFree l (⟨"java/lang/StringLatin1", "canEncode", "(C)Z"⟩ : MethodName) (head1 (Jvm.Cond.code (⟨"java/lang/StringLatin1", "canEncode", "(C)Z"⟩ : MethodName) jdk_43_method_3_code 1 (some .boolean) :: ws) ({ frames := 0, cells := 0, slots := 0, locals := 0 } : Room)) (fun a U => a = #[(.int p1)] ∧ Z.Warmed39 U.vm ∧ U.heap = h0) (fun _ _ _ _ _ => True) (fun _ U o U' => ∃ v L, o = .returned v ∧ Q3 Z p1 h0 n0 v U'.heap L ∧ FrameEnd U o U' L ({ frames := 0, cells := 0, slots := 0, locals := 0 } : Room).cells ({ frames := 0, cells := 0, slots := 0, locals := 0 } : Room).slots) := by
  refine MetFree.of_bodySF (plainFor_of_name pn_3) hisR ?_
  intro p e s m args below meth c s₁ Bd hml0 hP hK
  obtain ⟨rfl, hZ, hh⟩ := hP
  have hx := Bd.exec
  have hby := Bd.bytes
  have hlk := Bd.notSynchronized
  have hml : c.maxLocals = 1 := hml0
  have hown : s.vm.findClass "java/lang/StringLatin1" = some m.cls := findClass_of_methodNamed Bd.named
  have hnm := (name_of_methodNamed Bd.named Bd.method).1
  have X0 : Stand p l e ({ frames := 0, cells := 0, slots := 0, locals := 0 } : Room) s m #[(.int p1)] below meth c s₁ [] 0 0 := Stand.of_body Bd
  have e0 : s₁.heap = h0 := by rw [← hh, Bd.state]; rfl
  have N0 := Fr.nil n0
  show Goes p e below s 0 0 (Q3 Z p1 h0 n0) s₁ (entryFrame m #[(.int p1)] 1)
  refine goEq (ef_3 m p1) ?_
  refine go (T' := s₁) (g' := (mkF m 1 #[.val (.int p1)] [(.int p1)])) (fun t kt => XS.iloadN X0.here hx rfl (hb hby d3_0) rfl kt) ?_
  refine go (T' := s₁) (g' := (mkF m 4 #[.val (.int p1)] [(.int (255 : Int32)), (.int p1)])) (fun t kt => XS.sipush X0.here hx rfl (hb hby d3_1) kt) ?_
  by_cases hc : (255 : Int32) < p1
  · refine go (T' := s₁) (g' := (mkF m 11 #[.val (.int p1)] [])) (fun t kt => XS.icmpYes X0.here hx rfl (pc0 := 4) (pc' := 11) rfl (hb hby d3_4) rfl (tlt hc).2.2.1 (by decide) (by decide) kt) ?_
    refine go (T' := s₁) (g' := (mkF m 12 #[.val (.int p1)] [(.int (0 : Int32))])) (fun t kt => XS.iconst X0.here hx rfl (hb hby d3_11) kt) ?_
    refine goRetN X0 hx hlk (t := .boolean) Bd.returns (by simp) (hb hby d3_12) ?_ (by decide) (by decide)
    rw [e0]
    exact ⟨by rw [if_pos hc]; rfl, N0, rfl⟩
  · refine go (T' := s₁) (g' := (mkF m 7 #[.val (.int p1)] [])) (fun t kt => XS.icmpNo X0.here hx rfl (hb hby d3_4) rfl (flt hc).2.2.1 kt) ?_
    refine go (T' := s₁) (g' := (mkF m 8 #[.val (.int p1)] [(.int (1 : Int32))])) (fun t kt => XS.iconst X0.here hx rfl (hb hby d3_7) kt) ?_
    refine go (T' := s₁) (g' := (mkF m 12 #[.val (.int p1)] [(.int (1 : Int32))])) (fun t kt => XS.goto X0.here hx rfl (pc0 := 8) (pc' := 12) rfl (hb hby d3_8) (by decide) (by decide) kt) ?_
    refine goRetN X0 hx hlk (t := .boolean) Bd.returns (by simp) (hb hby d3_12) ?_ (by decide) (by decide)
    rw [e0]
    exact ⟨by rw [if_neg hc]; rfl, N0, rfl⟩
theorem d21_0 : decode jdk_43_method_4_code 0 = .ok (.iload_n 0, 1) := by decide +kernel
theorem d21_1 : decode jdk_43_method_4_code 1 = .ok (.ifCond .lt 14, 3) := by decide +kernel
theorem d21_4 : decode jdk_43_method_4_code 4 = .ok (.iload_n 0, 1) := by decide +kernel
theorem d21_5 : decode jdk_43_method_4_code 5 = .ok (.sipush 255, 3) := by decide +kernel
theorem d21_8 : decode jdk_43_method_4_code 8 = .ok (.if_icmp .gt 7, 3) := by decide +kernel
theorem d21_11 : decode jdk_43_method_4_code 11 = .ok (.iconst 1, 1) := by decide +kernel
theorem d21_12 : decode jdk_43_method_4_code 12 = .ok (.goto 4, 3) := by decide +kernel
theorem d21_15 : decode jdk_43_method_4_code 15 = .ok (.iconst 0, 1) := by decide +kernel
theorem d21_16 : decode jdk_43_method_4_code 16 = .ok (.ireturn, 1) := by decide +kernel
theorem ef_21 (m : MethodId) (p1 : Int32) : entryFrame m #[(.int p1)] 1 = mkF m 0 #[.val (.int p1)] [] := by first | (simp [entryFrame, mkF, argsToLocals, Value.category]; done) | rfl
def Q21 (Z : State) (p1 : Int32) (h0 : Heap) (n0 : Nat) (v : Option Value) (h : Heap) (L : List Loc) : Prop := v = some (.int 1) ∧ Fr n0 L ∧ h = h0
set_option maxRecDepth 65536 in
set_option maxHeartbeats 40000000 in
theorem rm21 (l : Launch) (Z : State) (a0 : Array Value) (hw : ∀ d ∈ tables_1, d.before a0 Z = true) (ws : List Jvm.Cond) (p1 : Int32) (h0 : Heap) (n0 : Nat) (Z0 : n0 ≤ h0.size) (hp : p1 = 44) :
    MetFree l (⟨"java/lang/StringLatin1", "canEncode", "(I)Z"⟩ : MethodName) (head1 (Jvm.Cond.code (⟨"java/lang/StringLatin1", "canEncode", "(I)Z"⟩ : MethodName) jdk_43_method_4_code 1 (some .boolean) :: ws) ({ frames := 0, cells := 0, slots := 0, locals := 0 } : Room)) (fun a U => a = #[(.int p1)] ∧ Z.Warmed39 U.vm ∧ U.heap = h0) (fun _ _ _ _ _ => True) (fun _ U o U' => ∃ v L, o = .returned v ∧ Q21 Z p1 h0 n0 v U'.heap L ∧ FrameEnd U o U' L ({ frames := 0, cells := 0, slots := 0, locals := 0 } : Room).cells ({ frames := 0, cells := 0, slots := 0, locals := 0 } : Room).slots) := by
  refine MetFree.of_bodySF (plainFor_of_name pn_3) hisR ?_
  intro p e s m args below meth c s₁ Bd hml0 hP hK
  obtain ⟨rfl, hZ, hh⟩ := hP
  have hx := Bd.exec
  have hby := Bd.bytes
  have hlk := Bd.notSynchronized
  have hml : c.maxLocals = 1 := hml0
  have hown : s.vm.findClass "java/lang/StringLatin1" = some m.cls := findClass_of_methodNamed Bd.named
  have hnm := (name_of_methodNamed Bd.named Bd.method).1
  have X0 : Stand p l e ({ frames := 0, cells := 0, slots := 0, locals := 0 } : Room) s m #[(.int p1)] below meth c s₁ [] 0 0 := Stand.of_body Bd
  have e0 : s₁.heap = h0 := by rw [← hh, Bd.state]; rfl
  have N0 := Fr.nil n0
  show Goes p e below s 0 0 (Q21 Z p1 h0 n0) s₁ (entryFrame m #[(.int p1)] 1)
  refine goEq (ef_21 m p1) ?_
  refine go (T' := s₁) (g' := (mkF m 1 #[.val (.int p1)] [(.int p1)])) (fun t kt => XS.iloadN X0.here hx rfl (hb hby d21_0) rfl kt) ?_
  refine go (T' := s₁) (g' := (mkF m 4 #[.val (.int p1)] [])) (fun t kt => XS.ifNo X0.here hx rfl (hb hby d21_1) rfl ((if0 _ _).trans (flt (by rw [hp]; decide)).1) kt) ?_
  refine go (T' := s₁) (g' := (mkF m 5 #[.val (.int p1)] [(.int p1)])) (fun t kt => XS.iloadN X0.here hx rfl (hb hby d21_4) rfl kt) ?_
  refine go (T' := s₁) (g' := (mkF m 8 #[.val (.int p1)] [(.int (255 : Int32)), (.int p1)])) (fun t kt => XS.sipush X0.here hx rfl (hb hby d21_5) kt) ?_
  refine go (T' := s₁) (g' := (mkF m 11 #[.val (.int p1)] [])) (fun t kt => XS.icmpNo X0.here hx rfl (hb hby d21_8) rfl (flt (by rw [hp]; decide)).2.2.1 kt) ?_
  refine go (T' := s₁) (g' := (mkF m 12 #[.val (.int p1)] [(.int (1 : Int32))])) (fun t kt => XS.iconst X0.here hx rfl (hb hby d21_11) kt) ?_
  refine go (T' := s₁) (g' := (mkF m 16 #[.val (.int p1)] [(.int (1 : Int32))])) (fun t kt => XS.goto X0.here hx rfl (pc0 := 12) (pc' := 16) rfl (hb hby d21_12) (by decide) (by decide) kt) ?_
  refine goRetN X0 hx hlk (t := .boolean) Bd.returns (by simp) (hb hby d21_16) ?_ (by decide) (by decide)
  rw [e0]
  exact ⟨rfl, N0, rfl⟩
theorem d17_0 : decode jdk_41_method_11_code 0 = .ok (.iload_n 0, 1) := by decide +kernel
theorem d17_1 : decode jdk_41_method_11_code 1 = .ok (.ifCond .lt 8, 3) := by decide +kernel
theorem d17_4 : decode jdk_41_method_11_code 4 = .ok (.iload_n 0, 1) := by decide +kernel
theorem d17_5 : decode jdk_41_method_11_code 5 = .ok (.iload_n 1, 1) := by decide +kernel
theorem d17_6 : decode jdk_41_method_11_code 6 = .ok (.if_icmp .lt 10, 3) := by decide +kernel
theorem d17_9 : decode jdk_41_method_11_code 9 = .ok (.aload_n 2, 1) := by decide +kernel
theorem d17_10 : decode jdk_41_method_11_code 10 = .ok (.iload_n 0, 1) := by decide +kernel
theorem d17_11 : decode jdk_41_method_11_code 11 = .ok (.iload_n 1, 1) := by decide +kernel
theorem d17_12 : decode jdk_41_method_11_code 12 = .ok (.invokestatic 95, 3) := by decide +kernel
theorem d17_15 : decode jdk_41_method_11_code 15 = .ok (.athrow, 1) := by decide +kernel
theorem d17_16 : decode jdk_41_method_11_code 16 = .ok (.iload_n 0, 1) := by decide +kernel
theorem d17_17 : decode jdk_41_method_11_code 17 = .ok (.ireturn, 1) := by decide +kernel
theorem pn_17 : plainName "jdk/internal/util/Preconditions" = true := by first | (simp [plainName, overriddenIn]; done) | decide +kernel
theorem ef__pc0 (m : MethodId) (p1 : Int32) (p2 : Int32) : entryFrame m #[(.int p1), (.int p2), .null] 3 = mkF m 0 #[.val (.int p1), .val (.int p2), .val .null] [] := by first | (simp [entryFrame, mkF, argsToLocals, Value.category]; done) | rfl
def Q_pc0 (Z : State) (p1 : Int32) (p2 : Int32) (h0 : Heap) (n0 : Nat) (v : Option Value) (h : Heap) (L : List Loc) : Prop := v = some (.int p1) ∧ Fr n0 L ∧ h = h0
set_option maxRecDepth 65536 in
set_option maxHeartbeats 40000000 in
theorem rm_pc0 (l : Launch) (Z : State) (a0 : Array Value) (hw : ∀ d ∈ tables_1, d.before a0 Z = true) (ws : List Jvm.Cond) (p1 : Int32) (p2 : Int32) (h0 : Heap) (n0 : Nat) (Z0 : n0 ≤ h0.size) (k1 : ¬ p1 < 0) (k2 : p1 < p2) :
    MetFree l (⟨"jdk/internal/util/Preconditions", "checkIndex", "(IILjava/util/function/BiFunction;)I"⟩ : MethodName) (head1 (Jvm.Cond.code (⟨"jdk/internal/util/Preconditions", "checkIndex", "(IILjava/util/function/BiFunction;)I"⟩ : MethodName) jdk_41_method_11_code 3 (some .int) :: ws) ({ frames := 0, cells := 0, slots := 0, locals := 0 } : Room)) (fun a U => a = #[(.int p1), (.int p2), .null] ∧ Z.Warmed39 U.vm ∧ U.heap = h0) (fun _ _ _ _ _ => True) (fun _ U o U' => ∃ v L, o = .returned v ∧ Q_pc0 Z p1 p2 h0 n0 v U'.heap L ∧ FrameEnd U o U' L ({ frames := 0, cells := 0, slots := 0, locals := 0 } : Room).cells ({ frames := 0, cells := 0, slots := 0, locals := 0 } : Room).slots) := by
  refine MetFree.of_bodySF (plainFor_of_name pn_17) hisR ?_
  intro p e s m args below meth c s₁ Bd hml0 hP hK
  obtain ⟨rfl, hZ, hh⟩ := hP
  have hx := Bd.exec
  have hby := Bd.bytes
  have hlk := Bd.notSynchronized
  have hml : c.maxLocals = 3 := hml0
  have hown : s.vm.findClass "jdk/internal/util/Preconditions" = some m.cls := findClass_of_methodNamed Bd.named
  have hnm := (name_of_methodNamed Bd.named Bd.method).1
  have X0 : Stand p l e ({ frames := 0, cells := 0, slots := 0, locals := 0 } : Room) s m #[(.int p1), (.int p2), .null] below meth c s₁ [] 0 0 := Stand.of_body Bd
  have e0 : s₁.heap = h0 := by rw [← hh, Bd.state]; rfl
  have N0 := Fr.nil n0
  show Goes p e below s 0 0 (Q_pc0 Z p1 p2 h0 n0) s₁ (entryFrame m #[(.int p1), (.int p2), .null] 3)
  refine goEq (ef__pc0 m p1 p2) ?_
  refine go (T' := s₁) (g' := (mkF m 1 #[.val (.int p1), .val (.int p2), .val .null] [(.int p1)])) (fun t kt => XS.iloadN X0.here hx rfl (hb hby d17_0) rfl kt) ?_
  refine go (T' := s₁) (g' := (mkF m 4 #[.val (.int p1), .val (.int p2), .val .null] [])) (fun t kt => XS.ifNo X0.here hx rfl (hb hby d17_1) rfl ((if0 _ _).trans (flt k1).1) kt) ?_
  refine go (T' := s₁) (g' := (mkF m 5 #[.val (.int p1), .val (.int p2), .val .null] [(.int p1)])) (fun t kt => XS.iloadN X0.here hx rfl (hb hby d17_4) rfl kt) ?_
  refine go (T' := s₁) (g' := (mkF m 6 #[.val (.int p1), .val (.int p2), .val .null] [(.int p2), (.int p1)])) (fun t kt => XS.iloadN X0.here hx rfl (hb hby d17_5) rfl kt) ?_
  refine go (T' := s₁) (g' := (mkF m 16 #[.val (.int p1), .val (.int p2), .val .null] [])) (fun t kt => XS.icmpYes X0.here hx rfl (pc0 := 6) (pc' := 16) rfl (hb hby d17_6) rfl (tlt k2).1 (by decide) (by decide) kt) ?_
  refine go (T' := s₁) (g' := (mkF m 17 #[.val (.int p1), .val (.int p2), .val .null] [(.int p1)])) (fun t kt => XS.iloadN X0.here hx rfl (hb hby d17_16) rfl kt) ?_
  refine goRetI X0 hx hlk Bd.returns (hb hby d17_17) ?_ (by decide) (by decide)
  rw [e0]
  exact ⟨rfl, N0, rfl⟩
theorem ef__pc1 (m : MethodId) (p1 : Int32) (p2 : Int32) (a3 : Addr) : entryFrame m #[(.int p1), (.int p2), (.ref a3)] 3 = mkF m 0 #[.val (.int p1), .val (.int p2), .val (.ref a3)] [] := by first | (simp [entryFrame, mkF, argsToLocals, Value.category]; done) | rfl
def Q_pc1 (Z : State) (p1 : Int32) (p2 : Int32) (a3 : Addr) (h0 : Heap) (n0 : Nat) (v : Option Value) (h : Heap) (L : List Loc) : Prop := v = some (.int p1) ∧ Fr n0 L ∧ h = h0
set_option maxRecDepth 65536 in
set_option maxHeartbeats 40000000 in
theorem rm_pc1 (l : Launch) (Z : State) (a0 : Array Value) (hw : ∀ d ∈ tables_1, d.before a0 Z = true) (ws : List Jvm.Cond) (p1 : Int32) (p2 : Int32) (a3 : Addr) (h0 : Heap) (n0 : Nat) (Z0 : n0 ≤ h0.size) (k1 : ¬ p1 < 0) (k2 : p1 < p2) :
    MetFree l (⟨"jdk/internal/util/Preconditions", "checkIndex", "(IILjava/util/function/BiFunction;)I"⟩ : MethodName) (head1 (Jvm.Cond.code (⟨"jdk/internal/util/Preconditions", "checkIndex", "(IILjava/util/function/BiFunction;)I"⟩ : MethodName) jdk_41_method_11_code 3 (some .int) :: ws) ({ frames := 0, cells := 0, slots := 0, locals := 0 } : Room)) (fun a U => a = #[(.int p1), (.int p2), (.ref a3)] ∧ Z.Warmed39 U.vm ∧ U.heap = h0) (fun _ _ _ _ _ => True) (fun _ U o U' => ∃ v L, o = .returned v ∧ Q_pc1 Z p1 p2 a3 h0 n0 v U'.heap L ∧ FrameEnd U o U' L ({ frames := 0, cells := 0, slots := 0, locals := 0 } : Room).cells ({ frames := 0, cells := 0, slots := 0, locals := 0 } : Room).slots) := by
  refine MetFree.of_bodySF (plainFor_of_name pn_17) hisR ?_
  intro p e s m args below meth c s₁ Bd hml0 hP hK
  obtain ⟨rfl, hZ, hh⟩ := hP
  have hx := Bd.exec
  have hby := Bd.bytes
  have hlk := Bd.notSynchronized
  have hml : c.maxLocals = 3 := hml0
  have hown : s.vm.findClass "jdk/internal/util/Preconditions" = some m.cls := findClass_of_methodNamed Bd.named
  have hnm := (name_of_methodNamed Bd.named Bd.method).1
  have X0 : Stand p l e ({ frames := 0, cells := 0, slots := 0, locals := 0 } : Room) s m #[(.int p1), (.int p2), (.ref a3)] below meth c s₁ [] 0 0 := Stand.of_body Bd
  have e0 : s₁.heap = h0 := by rw [← hh, Bd.state]; rfl
  have N0 := Fr.nil n0
  show Goes p e below s 0 0 (Q_pc1 Z p1 p2 a3 h0 n0) s₁ (entryFrame m #[(.int p1), (.int p2), (.ref a3)] 3)
  refine goEq (ef__pc1 m p1 p2 a3) ?_
  refine go (T' := s₁) (g' := (mkF m 1 #[.val (.int p1), .val (.int p2), .val (.ref a3)] [(.int p1)])) (fun t kt => XS.iloadN X0.here hx rfl (hb hby d17_0) rfl kt) ?_
  refine go (T' := s₁) (g' := (mkF m 4 #[.val (.int p1), .val (.int p2), .val (.ref a3)] [])) (fun t kt => XS.ifNo X0.here hx rfl (hb hby d17_1) rfl ((if0 _ _).trans (flt k1).1) kt) ?_
  refine go (T' := s₁) (g' := (mkF m 5 #[.val (.int p1), .val (.int p2), .val (.ref a3)] [(.int p1)])) (fun t kt => XS.iloadN X0.here hx rfl (hb hby d17_4) rfl kt) ?_
  refine go (T' := s₁) (g' := (mkF m 6 #[.val (.int p1), .val (.int p2), .val (.ref a3)] [(.int p2), (.int p1)])) (fun t kt => XS.iloadN X0.here hx rfl (hb hby d17_5) rfl kt) ?_
  refine go (T' := s₁) (g' := (mkF m 16 #[.val (.int p1), .val (.int p2), .val (.ref a3)] [])) (fun t kt => XS.icmpYes X0.here hx rfl (pc0 := 6) (pc' := 16) rfl (hb hby d17_6) rfl (tlt k2).1 (by decide) (by decide) kt) ?_
  refine go (T' := s₁) (g' := (mkF m 17 #[.val (.int p1), .val (.int p2), .val (.ref a3)] [(.int p1)])) (fun t kt => XS.iloadN X0.here hx rfl (hb hby d17_16) rfl kt) ?_
  refine goRetI X0 hx hlk Bd.returns (hb hby d17_17) ?_ (by decide) (by decide)
  rw [e0]
  exact ⟨rfl, N0, rfl⟩
theorem d16_0 : decode jdk_42_method_155_code 0 = .ok (.iload_n 0, 1) := by decide +kernel
theorem d16_1 : decode jdk_42_method_155_code 1 = .ok (.iload_n 1, 1) := by decide +kernel
theorem d16_2 : decode jdk_42_method_155_code 2 = .ok (.getstatic 1053, 3) := by decide +kernel
theorem d16_5 : decode jdk_42_method_155_code 5 = .ok (.invokestatic 1059, 3) := by decide +kernel
theorem d16_8 : decode jdk_42_method_155_code 8 = .ok (.pop, 1) := by decide +kernel
theorem d16_9 : decode jdk_42_method_155_code 9 = .ok (.return_, 1) := by decide +kernel
theorem pd_0 : parseMethodDescriptor "(IILjava/util/function/BiFunction;)I" = some ⟨[.int, .int, (.object "java/util/function/BiFunction")], some .int⟩ := by decide +kernel
theorem pn_16 : plainName "java/lang/String" = true := by first | (simp [plainName, overriddenIn]; done) | decide +kernel
theorem ef_16 (m : MethodId) (p1 : Int32) (p2 : Int32) : entryFrame m #[(.int p1), (.int p2)] 2 = mkF m 0 #[.val (.int p1), .val (.int p2)] [] := by first | (simp [entryFrame, mkF, argsToLocals, Value.category]; done) | rfl
def Q16 (Z : State) (p1 : Int32) (p2 : Int32) (cs : Int32) (sf : Value) (h0 : Heap) (n0 : Nat) (v : Option Value) (h : Heap) (L : List Loc) : Prop := v = none ∧ Fr n0 L ∧ h = h0
set_option maxRecDepth 65536 in
set_option maxHeartbeats 40000000 in
theorem rm16 (l : Launch) (Z : State) (a0 : Array Value) (hw : ∀ d ∈ tables_1, d.before a0 Z = true) (ws : List Jvm.Cond) (p1 : Int32) (p2 : Int32) (cs : Int32) (sf : Value) (h0 : Heap) (n0 : Nat) (Z0 : n0 ≤ h0.size) (O0 : Old Z n0 h0) (S1 : Sta Z Z.heap "java/lang/String" "COMPACT_STRINGS" "Z" (.int cs)) (hcs : ¬ cs = 0) (S2 : Sta Z Z.heap "jdk/internal/util/Preconditions" "SIOOBE_FORMATTER" "Ljava/util/function/BiFunction;" sf) (hsf : sf = .null ∨ ∃ fa, sf = .ref fa) (S3 : Sta Z Z.heap "java/lang/StringUTF16" "$assertionsDisabled" "Z" (.int (1 : Int32))) (S4 : Sta Z Z.heap "java/lang/StringUTF16" "HI_BYTE_SHIFT" "I" (.int (0 : Int32))) (S5 : Sta Z Z.heap "java/lang/StringUTF16" "LO_BYTE_SHIFT" "I" (.int (8 : Int32))) (k1 : ¬ p1 < 0) (k2 : p1 < p2) :
    MetFree l (⟨"java/lang/String", "checkIndex", "(II)V"⟩ : MethodName) (head1 (Jvm.Cond.code (⟨"java/lang/String", "checkIndex", "(II)V"⟩ : MethodName) jdk_42_method_155_code 2 none :: ws) ({ frames := 1, cells := 0, slots := 0, locals := 14 } : Room)) (fun a U => a = #[(.int p1), (.int p2)] ∧ Z.Warmed39 U.vm ∧ U.heap = h0) (fun _ _ _ _ _ => True) (fun _ U o U' => ∃ v L, o = .returned v ∧ Q16 Z p1 p2 cs sf h0 n0 v U'.heap L ∧ FrameEnd U o U' L ({ frames := 1, cells := 0, slots := 0, locals := 14 } : Room).cells ({ frames := 1, cells := 0, slots := 0, locals := 14 } : Room).slots) := by
  refine MetFree.of_bodySF (plainFor_of_name pn_16) hisR ?_
  intro p e s m args below meth c s₁ Bd hml0 hP hK
  obtain ⟨rfl, hZ, hh⟩ := hP
  have hx := Bd.exec
  have hby := Bd.bytes
  have hlk := Bd.notSynchronized
  have hml : c.maxLocals = 2 := hml0
  have hown : s.vm.findClass "java/lang/String" = some m.cls := findClass_of_methodNamed Bd.named
  have hnm := (name_of_methodNamed Bd.named Bd.method).1
  have X0 : Stand p l e ({ frames := 1, cells := 0, slots := 0, locals := 14 } : Room) s m #[(.int p1), (.int p2)] below meth c s₁ [] 0 0 := Stand.of_body Bd
  have e0 : s₁.heap = h0 := by rw [← hh, Bd.state]; rfl
  have N0 := Fr.nil n0
  show Goes p e below s 0 0 (Q16 Z p1 p2 cs sf h0 n0) s₁ (entryFrame m #[(.int p1), (.int p2)] 2)
  refine goEq (ef_16 m p1 p2) ?_
  refine go (T' := s₁) (g' := (mkF m 1 #[.val (.int p1), .val (.int p2)] [(.int p1)])) (fun t kt => XS.iloadN X0.here hx rfl (hb hby d16_0) rfl kt) ?_
  refine go (T' := s₁) (g' := (mkF m 2 #[.val (.int p1), .val (.int p2)] [(.int p2), (.int p1)])) (fun t kt => XS.iloadN X0.here hx rfl (hb hby d16_1) rfl kt) ?_
  rcases hsf with rfl | ⟨fa, rfl⟩
  · obtain ⟨T1001, X1001, e1001, st1001⟩ := getS2 X0 hx hZ hown (host := "") (Or.inl (hw _ (List.mem_of_getElem? (i := 70) rfl))) Via.refl e0 (S2.ext O0.2) (g := (mkF m 2 #[.val (.int p1), .val (.int p2)] [(.int p2), (.int p1)])) rfl (hb hby d16_2)
    refine go (T' := T1001) (g' := (mkF m 5 #[.val (.int p1), .val (.int p2)] [.null, (.int p2), (.int p1)])) st1001 ?_
    obtain ⟨_, _, ⟨T1002, L1002, k1002, n1002⟩, -, X1002, ⟨Lc1002, hQ1002, l1002, y1002, z1002⟩, st1002⟩ := Jvm.LawKit.callS X1001 hx (y := (⟨"jdk/internal/util/Preconditions", "checkIndex", "(IILjava/util/function/BiFunction;)I"⟩ : MethodName)) hown (mvT hZ (hw _ (List.mem_of_getElem? (i := 72) rfl))) (mvT hZ (hw _ (List.mem_of_getElem? (i := 73) rfl))) (mvT hZ (hw _ (List.mem_of_getElem? (i := 71) rfl))) (mvT hZ (hw _ (List.mem_of_getElem? (i := 74) rfl))) (by decide) (backOf (W := 0) (rm_pc0 l Z a0 hw [] p1 p2  h0 n0 Z0 k1 k2) hZ (hw _ (List.mem_of_getElem? (i := 74) rfl)) (hw _ (List.mem_of_getElem? (i := 71) rfl)) (by decide) (by decide)) (g := (mkF m 5 #[.val (.int p1), .val (.int p2)] [.null, (.int p2), (.int p1)])) rfl (by rw [hml]; rfl) (argsL := [(.int p1), (.int p2), .null]) (rest := []) (lenOf pd_0 rfl) rfl (by show 2 * 0 + _ ≤ _; exact Nat.le_of_eq rfl) (hb hby d16_5) (fun _ _ => ⟨rfl, e1001, (by decide : 0 + 0 ≤ _), (by decide : 0 + 0 ≤ _)⟩)
    dsimp only [Pt.U, Pt.locs, Pt.cells, Pt.slots] at X1002 l1002 y1002 z1002 st1002 hQ1002
    subst l1002 y1002 z1002
    obtain ⟨rfl, N1002q, e1002⟩ := hQ1002
    have N1002 := Fr.app N0 N1002q
    refine go (T' := T1002) (g' := (mkF m 8 #[.val (.int p1), .val (.int p2)] [(.int p1)])) st1002 ?_
    refine go (T' := T1002) (g' := (mkF m 9 #[.val (.int p1), .val (.int p2)] [])) (fun t kt => XS.pop X1002.here hx rfl (hb hby d16_8) rfl rfl kt) ?_
    refine goRetV X1002 hx hlk Bd.returns (hb hby d16_9) ?_ (by decide) (by decide)
    rw [e1002]
    exact ⟨rfl, N1002, rfl⟩
  · obtain ⟨T1003, X1003, e1003, st1003⟩ := getS2 X0 hx hZ hown (host := "") (Or.inl (hw _ (List.mem_of_getElem? (i := 70) rfl))) Via.refl e0 (S2.ext O0.2) (g := (mkF m 2 #[.val (.int p1), .val (.int p2)] [(.int p2), (.int p1)])) rfl (hb hby d16_2)
    refine go (T' := T1003) (g' := (mkF m 5 #[.val (.int p1), .val (.int p2)] [(.ref fa), (.int p2), (.int p1)])) st1003 ?_
    obtain ⟨_, _, ⟨T1004, L1004, k1004, n1004⟩, -, X1004, ⟨Lc1004, hQ1004, l1004, y1004, z1004⟩, st1004⟩ := Jvm.LawKit.callS X1003 hx (y := (⟨"jdk/internal/util/Preconditions", "checkIndex", "(IILjava/util/function/BiFunction;)I"⟩ : MethodName)) hown (mvT hZ (hw _ (List.mem_of_getElem? (i := 72) rfl))) (mvT hZ (hw _ (List.mem_of_getElem? (i := 73) rfl))) (mvT hZ (hw _ (List.mem_of_getElem? (i := 71) rfl))) (mvT hZ (hw _ (List.mem_of_getElem? (i := 74) rfl))) (by decide) (backOf (W := 0) (rm_pc1 l Z a0 hw [] p1 p2 fa h0 n0 Z0 k1 k2) hZ (hw _ (List.mem_of_getElem? (i := 74) rfl)) (hw _ (List.mem_of_getElem? (i := 71) rfl)) (by decide) (by decide)) (g := (mkF m 5 #[.val (.int p1), .val (.int p2)] [(.ref fa), (.int p2), (.int p1)])) rfl (by rw [hml]; rfl) (argsL := [(.int p1), (.int p2), (.ref fa)]) (rest := []) (lenOf pd_0 rfl) rfl (by show 2 * 0 + _ ≤ _; exact Nat.le_of_eq rfl) (hb hby d16_5) (fun _ _ => ⟨rfl, e1003, (by decide : 0 + 0 ≤ _), (by decide : 0 + 0 ≤ _)⟩)
    dsimp only [Pt.U, Pt.locs, Pt.cells, Pt.slots] at X1004 l1004 y1004 z1004 st1004 hQ1004
    subst l1004 y1004 z1004
    obtain ⟨rfl, N1004q, e1004⟩ := hQ1004
    have N1004 := Fr.app N0 N1004q
    refine go (T' := T1004) (g' := (mkF m 8 #[.val (.int p1), .val (.int p2)] [(.int p1)])) st1004 ?_
    refine go (T' := T1004) (g' := (mkF m 9 #[.val (.int p1), .val (.int p2)] [])) (fun t kt => XS.pop X1004.here hx rfl (hb hby d16_8) rfl rfl kt) ?_
    refine goRetV X1004 hx hlk Bd.returns (hb hby d16_9) ?_ (by decide) (by decide)
    rw [e1004]
    exact ⟨rfl, N1004, rfl⟩
theorem d15_0 : decode jdk_43_method_2_code 0 = .ok (.iload_n 1, 1) := by decide +kernel
theorem d15_1 : decode jdk_43_method_2_code 1 = .ok (.aload_n 0, 1) := by decide +kernel
theorem d15_2 : decode jdk_43_method_2_code 2 = .ok (.arraylength, 1) := by decide +kernel
theorem d15_3 : decode jdk_43_method_2_code 3 = .ok (.invokestatic 9, 3) := by decide +kernel
theorem d15_6 : decode jdk_43_method_2_code 6 = .ok (.aload_n 0, 1) := by decide +kernel
theorem d15_7 : decode jdk_43_method_2_code 7 = .ok (.iload_n 1, 1) := by decide +kernel
theorem d15_8 : decode jdk_43_method_2_code 8 = .ok (.baload, 1) := by decide +kernel
theorem d15_9 : decode jdk_43_method_2_code 9 = .ok (.sipush 255, 3) := by decide +kernel
theorem d15_12 : decode jdk_43_method_2_code 12 = .ok (.iand, 1) := by decide +kernel
theorem d15_13 : decode jdk_43_method_2_code 13 = .ok (.i2c, 1) := by decide +kernel
theorem d15_14 : decode jdk_43_method_2_code 14 = .ok (.ireturn, 1) := by decide +kernel
theorem pd_1 : parseMethodDescriptor "(II)V" = some ⟨[.int, .int], none⟩ := by decide +kernel
theorem ef_15 (m : MethodId) (b1 : Addr) (p1 : Int32) : entryFrame m #[(.ref b1), (.int p1)] 2 = mkF m 0 #[.val (.ref b1), .val (.int p1)] [] := by first | (simp [entryFrame, mkF, argsToLocals, Value.category]; done) | rfl
def Q15 (Z : State) (b1 : Addr) (p1 : Int32) (x : Int32) (cs : Int32) (sf : Value) (h0 : Heap) (n0 : Nat) (v : Option Value) (h : Heap) (L : List Loc) : Prop := v = some (.int (own_ch x)) ∧ Fr n0 L ∧ h = h0
set_option maxRecDepth 65536 in
set_option maxHeartbeats 40000000 in
theorem rm15 (l : Launch) (Z : State) (a0 : Array Value) (hw : ∀ d ∈ tables_1, d.before a0 Z = true) (ws : List Jvm.Cond) (b1 : Addr) (p1 : Int32) (x : Int32) (cs : Int32) (sf : Value) (h0 : Heap) (n0 : Nat) (Z0 : n0 ≤ h0.size) (O0 : Old Z n0 h0) (S1 : Sta Z Z.heap "java/lang/String" "COMPACT_STRINGS" "Z" (.int cs)) (hcs : ¬ cs = 0) (S2 : Sta Z Z.heap "jdk/internal/util/Preconditions" "SIOOBE_FORMATTER" "Ljava/util/function/BiFunction;" sf) (hsf : sf = .null ∨ ∃ fa, sf = .ref fa) (S3 : Sta Z Z.heap "java/lang/StringUTF16" "$assertionsDisabled" "Z" (.int (1 : Int32))) (S4 : Sta Z Z.heap "java/lang/StringUTF16" "HI_BYTE_SHIFT" "I" (.int (0 : Int32))) (S5 : Sta Z Z.heap "java/lang/StringUTF16" "LO_BYTE_SHIFT" "I" (.int (8 : Int32))) (hp : p1 = 0) (V1 : Aw Z h0 b1 .byte 1 (fun _ => .int x)) :
    MetFree l (⟨"java/lang/StringLatin1", "charAt", "([BI)C"⟩ : MethodName) (head1 (Jvm.Cond.code (⟨"java/lang/StringLatin1", "charAt", "([BI)C"⟩ : MethodName) jdk_43_method_2_code 2 (some .char) :: ws) ({ frames := 2, cells := 0, slots := 0, locals := 27 } : Room)) (fun a U => a = #[(.ref b1), (.int p1)] ∧ Z.Warmed39 U.vm ∧ U.heap = h0) (fun _ _ _ _ _ => True) (fun _ U o U' => ∃ v L, o = .returned v ∧ Q15 Z b1 p1 x cs sf h0 n0 v U'.heap L ∧ FrameEnd U o U' L ({ frames := 2, cells := 0, slots := 0, locals := 27 } : Room).cells ({ frames := 2, cells := 0, slots := 0, locals := 27 } : Room).slots) := by
  refine MetFree.of_bodySF (plainFor_of_name pn_3) hisR ?_
  intro p e s m args below meth c s₁ Bd hml0 hP hK
  obtain ⟨rfl, hZ, hh⟩ := hP
  have hx := Bd.exec
  have hby := Bd.bytes
  have hlk := Bd.notSynchronized
  have hml : c.maxLocals = 2 := hml0
  have hown : s.vm.findClass "java/lang/StringLatin1" = some m.cls := findClass_of_methodNamed Bd.named
  have hnm := (name_of_methodNamed Bd.named Bd.method).1
  have X0 : Stand p l e ({ frames := 2, cells := 0, slots := 0, locals := 27 } : Room) s m #[(.ref b1), (.int p1)] below meth c s₁ [] 0 0 := Stand.of_body Bd
  have e0 : s₁.heap = h0 := by rw [← hh, Bd.state]; rfl
  have N0 := Fr.nil n0
  show Goes p e below s 0 0 (Q15 Z b1 p1 x cs sf h0 n0) s₁ (entryFrame m #[(.ref b1), (.int p1)] 2)
  refine goEq (ef_15 m b1 p1) ?_
  refine goEq (g' := (mkF m 0 #[.val (.ref b1), .val (.int (0 : Int32))] [])) (by rw [hp]) ?_
  refine go (T' := s₁) (g' := (mkF m 1 #[.val (.ref b1), .val (.int (0 : Int32))] [(.int (0 : Int32))])) (fun t kt => XS.iloadN X0.here hx rfl (hb hby d15_0) rfl kt) ?_
  refine go (T' := s₁) (g' := (mkF m 2 #[.val (.ref b1), .val (.int (0 : Int32))] [(.ref b1), (.int (0 : Int32))])) (fun t kt => XS.aloadN X0.here hx rfl (hb hby d15_1) rfl rfl kt) ?_
  refine go (T' := s₁) (g' := (mkF m 3 #[.val (.ref b1), .val (.int (0 : Int32))] [(.int (1 : Int32)), (.int (0 : Int32))])) (fun t kt => own_len X0 hx hZ e0 V1 (g := (mkF m 2 #[.val (.ref b1), .val (.int (0 : Int32))] [(.ref b1), (.int (0 : Int32))])) rfl rfl (hb hby d15_2) _ kt) ?_
  obtain ⟨_, _, ⟨T1005, L1005, k1005, n1005⟩, -, X1005, ⟨Lc1005, hQ1005, l1005, y1005, z1005⟩, st1005⟩ := Jvm.LawKit.callS X0 hx (y := (⟨"java/lang/String", "checkIndex", "(II)V"⟩ : MethodName)) hown (mvT hZ (hw _ (List.mem_of_getElem? (i := 67) rfl))) (mvT hZ (hw _ (List.mem_of_getElem? (i := 68) rfl))) (mvT hZ (hw _ (List.mem_of_getElem? (i := 6) rfl))) (mvT hZ (hw _ (List.mem_of_getElem? (i := 69) rfl))) (by decide) (backOf (W := 0) (rm16 l Z a0 hw [] 0 1 cs sf h0 n0 Z0 O0 S1 hcs S2 hsf S3 S4 S5 (by decide) (by decide)) hZ (hw _ (List.mem_of_getElem? (i := 69) rfl)) (hw _ (List.mem_of_getElem? (i := 6) rfl)) (by decide) (by decide)) (g := (mkF m 3 #[.val (.ref b1), .val (.int (0 : Int32))] [(.int (1 : Int32)), (.int (0 : Int32))])) rfl (by rw [hml]; rfl) (argsL := [(.int (0 : Int32)), (.int (1 : Int32))]) (rest := []) (lenOf pd_1 rfl) rfl (by show 2 * 0 + _ ≤ _; exact Nat.le_of_eq rfl) (hb hby d15_3) (fun _ _ => ⟨rfl, e0, (by decide : 0 + 0 ≤ _), (by decide : 0 + 0 ≤ _)⟩)
  dsimp only [Pt.U, Pt.locs, Pt.cells, Pt.slots] at X1005 l1005 y1005 z1005 st1005 hQ1005
  subst l1005 y1005 z1005
  obtain ⟨rfl, N1005q, e1005⟩ := hQ1005
  have N1005 := Fr.app N0 N1005q
  refine go (T' := T1005) (g' := (mkF m 6 #[.val (.ref b1), .val (.int (0 : Int32))] [])) st1005 ?_
  refine go (T' := T1005) (g' := (mkF m 7 #[.val (.ref b1), .val (.int (0 : Int32))] [(.ref b1)])) (fun t kt => XS.aloadN X1005.here hx rfl (hb hby d15_6) rfl rfl kt) ?_
  refine go (T' := T1005) (g' := (mkF m 8 #[.val (.ref b1), .val (.int (0 : Int32))] [(.int (0 : Int32)), (.ref b1)])) (fun t kt => XS.iloadN X1005.here hx rfl (hb hby d15_7) rfl kt) ?_
  refine go (T' := T1005) (g' := (mkF m 9 #[.val (.ref b1), .val (.int (0 : Int32))] [(.int x)])) (fun t kt => own_ldB X1005 hx hZ e1005 V1 (j := (0 : Int32)) ⟨by decide, by decide⟩ (v := (.int x)) rfl (g := (mkF m 8 #[.val (.ref b1), .val (.int (0 : Int32))] [(.int (0 : Int32)), (.ref b1)])) rfl rfl (hb hby d15_8) _ kt) ?_
  refine go (T' := T1005) (g' := (mkF m 12 #[.val (.ref b1), .val (.int (0 : Int32))] [(.int (255 : Int32)), (.int x)])) (fun t kt => XS.sipush X1005.here hx rfl (hb hby d15_9) kt) ?_
  refine go (T' := T1005) (g' := (mkF m 13 #[.val (.ref b1), .val (.int (0 : Int32))] [(.int (x &&& (255 : Int32)))])) (fun t kt => XS.iand X1005.here hx rfl (hb hby d15_12) rfl kt) ?_
  refine go (T' := T1005) (g' := (mkF m 14 #[.val (.ref b1), .val (.int (0 : Int32))] [(.int ((x &&& (255 : Int32)).toUInt32.toUInt16.toUInt32.toInt32))])) (fun t kt => XS.i2c X1005.here hx rfl (hb hby d15_13) rfl kt) ?_
  refine goRetN X1005 hx hlk (t := .char) Bd.returns (by simp) (hb hby d15_14) ?_ (by decide) (by decide)
  rw [e1005]
  exact ⟨rfl, N1005, rfl⟩
theorem d29_0 : decode jdk_52_method_6_code 0 = .ok (.aload_n 0, 1) := by decide +kernel
theorem d29_1 : decode jdk_52_method_6_code 1 = .ok (.arraylength, 1) := by decide +kernel
theorem d29_2 : decode jdk_52_method_6_code 2 = .ok (.iconst 1, 1) := by decide +kernel
theorem d29_3 : decode jdk_52_method_6_code 3 = .ok (.ishr, 1) := by decide +kernel
theorem d29_4 : decode jdk_52_method_6_code 4 = .ok (.ireturn, 1) := by decide +kernel
theorem pn_29 : plainName "java/lang/StringUTF16" = true := by first | (simp [plainName, overriddenIn]; done) | decide +kernel
theorem ef_29 (m : MethodId) (b1 : Addr) : entryFrame m #[(.ref b1)] 1 = mkF m 0 #[.val (.ref b1)] [] := by first | (simp [entryFrame, mkF, argsToLocals, Value.category]; done) | rfl
def Q29 (Z : State) (b1 : Addr) (x : Int32) (y : Int32) (h0 : Heap) (n0 : Nat) (v : Option Value) (h : Heap) (L : List Loc) : Prop := v = some (.int 1) ∧ Fr n0 L ∧ h = h0
set_option maxRecDepth 65536 in
set_option maxHeartbeats 40000000 in
theorem rm29 (l : Launch) (Z : State) (a0 : Array Value) (hw : ∀ d ∈ tables_1, d.before a0 Z = true) (ws : List Jvm.Cond) (b1 : Addr) (x : Int32) (y : Int32) (h0 : Heap) (n0 : Nat) (Z0 : n0 ≤ h0.size) (V1 : Aw Z h0 b1 .byte 2 (fun i => .int (if i = 0 then x else y))) :
    MetFree l (⟨"java/lang/StringUTF16", "length", "([B)I"⟩ : MethodName) (head1 (Jvm.Cond.code (⟨"java/lang/StringUTF16", "length", "([B)I"⟩ : MethodName) jdk_52_method_6_code 1 (some .int) :: ws) ({ frames := 0, cells := 0, slots := 0, locals := 0 } : Room)) (fun a U => a = #[(.ref b1)] ∧ Z.Warmed39 U.vm ∧ U.heap = h0) (fun _ _ _ _ _ => True) (fun _ U o U' => ∃ v L, o = .returned v ∧ Q29 Z b1 x y h0 n0 v U'.heap L ∧ FrameEnd U o U' L ({ frames := 0, cells := 0, slots := 0, locals := 0 } : Room).cells ({ frames := 0, cells := 0, slots := 0, locals := 0 } : Room).slots) := by
  refine MetFree.of_bodySF (plainFor_of_name pn_29) hisR ?_
  intro p e s m args below meth c s₁ Bd hml0 hP hK
  obtain ⟨rfl, hZ, hh⟩ := hP
  have hx := Bd.exec
  have hby := Bd.bytes
  have hlk := Bd.notSynchronized
  have hml : c.maxLocals = 1 := hml0
  have hown : s.vm.findClass "java/lang/StringUTF16" = some m.cls := findClass_of_methodNamed Bd.named
  have hnm := (name_of_methodNamed Bd.named Bd.method).1
  have X0 : Stand p l e ({ frames := 0, cells := 0, slots := 0, locals := 0 } : Room) s m #[(.ref b1)] below meth c s₁ [] 0 0 := Stand.of_body Bd
  have e0 : s₁.heap = h0 := by rw [← hh, Bd.state]; rfl
  have N0 := Fr.nil n0
  show Goes p e below s 0 0 (Q29 Z b1 x y h0 n0) s₁ (entryFrame m #[(.ref b1)] 1)
  refine goEq (ef_29 m b1) ?_
  refine go (T' := s₁) (g' := (mkF m 1 #[.val (.ref b1)] [(.ref b1)])) (fun t kt => XS.aloadN X0.here hx rfl (hb hby d29_0) rfl rfl kt) ?_
  refine go (T' := s₁) (g' := (mkF m 2 #[.val (.ref b1)] [(.int (2 : Int32))])) (fun t kt => own_len X0 hx hZ e0 V1 (g := (mkF m 1 #[.val (.ref b1)] [(.ref b1)])) rfl rfl (hb hby d29_1) _ kt) ?_
  refine go (T' := s₁) (g' := (mkF m 3 #[.val (.ref b1)] [(.int (1 : Int32)), (.int (2 : Int32))])) (fun t kt => XS.iconst X0.here hx rfl (hb hby d29_2) kt) ?_
  refine go (T' := s₁) (g' := (mkF m 4 #[.val (.ref b1)] [(.int ((2 : Int32) >>> ((1 : Int32) &&& 31)))])) (fun t kt => XS.ishr X0.here hx rfl (hb hby d29_3) rfl kt) ?_
  refine goRetI X0 hx hlk Bd.returns (hb hby d29_4) ?_ (by decide) (by decide)
  rw [e0]
  exact ⟨rfl, N0, rfl⟩
theorem d28_0 : decode jdk_52_method_91_code 0 = .ok (.iload_n 0, 1) := by decide +kernel
theorem d28_1 : decode jdk_52_method_91_code 1 = .ok (.aload_n 1, 1) := by decide +kernel
theorem d28_2 : decode jdk_52_method_91_code 2 = .ok (.invokestatic 48, 3) := by decide +kernel
theorem d28_5 : decode jdk_52_method_91_code 5 = .ok (.invokestatic 414, 3) := by decide +kernel
theorem d28_8 : decode jdk_52_method_91_code 8 = .ok (.return_, 1) := by decide +kernel
theorem pd_2 : parseMethodDescriptor "([B)I" = some ⟨[(.array .byte)], some .int⟩ := by decide +kernel
theorem ef_28 (m : MethodId) (p1 : Int32) (b1 : Addr) : entryFrame m #[(.int p1), (.ref b1)] 2 = mkF m 0 #[.val (.int p1), .val (.ref b1)] [] := by first | (simp [entryFrame, mkF, argsToLocals, Value.category]; done) | rfl
def Q28 (Z : State) (p1 : Int32) (b1 : Addr) (x : Int32) (y : Int32) (cs : Int32) (sf : Value) (h0 : Heap) (n0 : Nat) (v : Option Value) (h : Heap) (L : List Loc) : Prop := v = none ∧ Fr n0 L ∧ h = h0
set_option maxRecDepth 65536 in
set_option maxHeartbeats 40000000 in
theorem rm28 (l : Launch) (Z : State) (a0 : Array Value) (hw : ∀ d ∈ tables_1, d.before a0 Z = true) (ws : List Jvm.Cond) (p1 : Int32) (b1 : Addr) (x : Int32) (y : Int32) (cs : Int32) (sf : Value) (h0 : Heap) (n0 : Nat) (Z0 : n0 ≤ h0.size) (O0 : Old Z n0 h0) (S1 : Sta Z Z.heap "java/lang/String" "COMPACT_STRINGS" "Z" (.int cs)) (hcs : ¬ cs = 0) (S2 : Sta Z Z.heap "jdk/internal/util/Preconditions" "SIOOBE_FORMATTER" "Ljava/util/function/BiFunction;" sf) (hsf : sf = .null ∨ ∃ fa, sf = .ref fa) (S3 : Sta Z Z.heap "java/lang/StringUTF16" "$assertionsDisabled" "Z" (.int (1 : Int32))) (S4 : Sta Z Z.heap "java/lang/StringUTF16" "HI_BYTE_SHIFT" "I" (.int (0 : Int32))) (S5 : Sta Z Z.heap "java/lang/StringUTF16" "LO_BYTE_SHIFT" "I" (.int (8 : Int32))) (hp : p1 = 0) (V1 : Aw Z h0 b1 .byte 2 (fun i => .int (if i = 0 then x else y))) :
    MetFree l (⟨"java/lang/StringUTF16", "checkIndex", "(I[B)V"⟩ : MethodName) (head1 (Jvm.Cond.code (⟨"java/lang/StringUTF16", "checkIndex", "(I[B)V"⟩ : MethodName) jdk_52_method_91_code 2 none :: ws) ({ frames := 2, cells := 0, slots := 0, locals := 27 } : Room)) (fun a U => a = #[(.int p1), (.ref b1)] ∧ Z.Warmed39 U.vm ∧ U.heap = h0) (fun _ _ _ _ _ => True) (fun _ U o U' => ∃ v L, o = .returned v ∧ Q28 Z p1 b1 x y cs sf h0 n0 v U'.heap L ∧ FrameEnd U o U' L ({ frames := 2, cells := 0, slots := 0, locals := 27 } : Room).cells ({ frames := 2, cells := 0, slots := 0, locals := 27 } : Room).slots) := by
  refine MetFree.of_bodySF (plainFor_of_name pn_29) hisR ?_
  intro p e s m args below meth c s₁ Bd hml0 hP hK
  obtain ⟨rfl, hZ, hh⟩ := hP
  have hx := Bd.exec
  have hby := Bd.bytes
  have hlk := Bd.notSynchronized
  have hml : c.maxLocals = 2 := hml0
  have hown : s.vm.findClass "java/lang/StringUTF16" = some m.cls := findClass_of_methodNamed Bd.named
  have hnm := (name_of_methodNamed Bd.named Bd.method).1
  have X0 : Stand p l e ({ frames := 2, cells := 0, slots := 0, locals := 27 } : Room) s m #[(.int p1), (.ref b1)] below meth c s₁ [] 0 0 := Stand.of_body Bd
  have e0 : s₁.heap = h0 := by rw [← hh, Bd.state]; rfl
  have N0 := Fr.nil n0
  show Goes p e below s 0 0 (Q28 Z p1 b1 x y cs sf h0 n0) s₁ (entryFrame m #[(.int p1), (.ref b1)] 2)
  refine goEq (ef_28 m p1 b1) ?_
  refine goEq (g' := (mkF m 0 #[.val (.int (0 : Int32)), .val (.ref b1)] [])) (by rw [hp]) ?_
  refine go (T' := s₁) (g' := (mkF m 1 #[.val (.int (0 : Int32)), .val (.ref b1)] [(.int (0 : Int32))])) (fun t kt => XS.iloadN X0.here hx rfl (hb hby d28_0) rfl kt) ?_
  refine go (T' := s₁) (g' := (mkF m 2 #[.val (.int (0 : Int32)), .val (.ref b1)] [(.ref b1), (.int (0 : Int32))])) (fun t kt => XS.aloadN X0.here hx rfl (hb hby d28_1) rfl rfl kt) ?_
  obtain ⟨_, _, ⟨T1006, L1006, k1006, n1006⟩, -, X1006, ⟨Lc1006, hQ1006, l1006, y1006, z1006⟩, st1006⟩ := Jvm.LawKit.callS X0 hx (y := (⟨"java/lang/StringUTF16", "length", "([B)I"⟩ : MethodName)) hown (mvT hZ (hw _ (List.mem_of_getElem? (i := 119) rfl))) (mvT hZ (hw _ (List.mem_of_getElem? (i := 120) rfl))) (mvT hZ (hw _ (List.mem_of_getElem? (i := 105) rfl))) (mvT hZ (hw _ (List.mem_of_getElem? (i := 121) rfl))) (by decide) (backOf (W := 1) (rm29 l Z a0 hw [] b1 x y h0 n0 Z0 V1) hZ (hw _ (List.mem_of_getElem? (i := 121) rfl)) (hw _ (List.mem_of_getElem? (i := 105) rfl)) (by decide) (by decide)) (g := (mkF m 2 #[.val (.int (0 : Int32)), .val (.ref b1)] [(.ref b1), (.int (0 : Int32))])) rfl (by rw [hml]; rfl) (argsL := [(.ref b1)]) (rest := [(.int (0 : Int32))]) (lenOf pd_2 rfl) rfl (by show 2 * 0 + _ ≤ _; exact Nat.le_of_eq rfl) (hb hby d28_2) (fun _ _ => ⟨rfl, e0, (by decide : 0 + 0 ≤ _), (by decide : 0 + 0 ≤ _)⟩)
  dsimp only [Pt.U, Pt.locs, Pt.cells, Pt.slots] at X1006 l1006 y1006 z1006 st1006 hQ1006
  subst l1006 y1006 z1006
  obtain ⟨rfl, N1006q, e1006⟩ := hQ1006
  have N1006 := Fr.app N0 N1006q
  refine go (T' := T1006) (g' := (mkF m 5 #[.val (.int (0 : Int32)), .val (.ref b1)] [(.int (1 : Int32)), (.int (0 : Int32))])) st1006 ?_
  obtain ⟨_, _, ⟨T1007, L1007, k1007, n1007⟩, -, X1007, ⟨Lc1007, hQ1007, l1007, y1007, z1007⟩, st1007⟩ := Jvm.LawKit.callS X1006 hx (y := (⟨"java/lang/String", "checkIndex", "(II)V"⟩ : MethodName)) hown (mvT hZ (hw _ (List.mem_of_getElem? (i := 122) rfl))) (mvT hZ (hw _ (List.mem_of_getElem? (i := 68) rfl))) (mvT hZ (hw _ (List.mem_of_getElem? (i := 6) rfl))) (mvT hZ (hw _ (List.mem_of_getElem? (i := 69) rfl))) (by decide) (backOf (W := 0) (rm16 l Z a0 hw [] 0 1 cs sf h0 n0 Z0 O0 S1 hcs S2 hsf S3 S4 S5 (by decide) (by decide)) hZ (hw _ (List.mem_of_getElem? (i := 69) rfl)) (hw _ (List.mem_of_getElem? (i := 6) rfl)) (by decide) (by decide)) (g := (mkF m 5 #[.val (.int (0 : Int32)), .val (.ref b1)] [(.int (1 : Int32)), (.int (0 : Int32))])) rfl (by rw [hml]; rfl) (argsL := [(.int (0 : Int32)), (.int (1 : Int32))]) (rest := []) (lenOf pd_1 rfl) rfl (by show 2 * 0 + _ ≤ _; exact Nat.le_of_eq rfl) (hb hby d28_5) (fun _ _ => ⟨rfl, e1006, (by decide : 0 + 0 ≤ _), (by decide : 0 + 0 ≤ _)⟩)
  dsimp only [Pt.U, Pt.locs, Pt.cells, Pt.slots] at X1007 l1007 y1007 z1007 st1007 hQ1007
  subst l1007 y1007 z1007
  obtain ⟨rfl, N1007q, e1007⟩ := hQ1007
  have N1007 := Fr.app N1006 N1007q
  refine go (T' := T1007) (g' := (mkF m 8 #[.val (.int (0 : Int32)), .val (.ref b1)] [])) st1007 ?_
  refine goRetV X1007 hx hlk Bd.returns (hb hby d28_8) ?_ (by decide) (by decide)
  rw [e1007]
  exact ⟨rfl, N1007, rfl⟩
theorem d30_0 : decode jdk_52_method_5_code 0 = .ok (.getstatic 44, 3) := by decide +kernel
theorem d30_3 : decode jdk_52_method_5_code 3 = .ok (.ifCond .ne 25, 3) := by decide +kernel
theorem d30_6 : decode jdk_52_method_5_code 6 = .ok (.iload_n 1, 1) := by decide +kernel
theorem d30_7 : decode jdk_52_method_5_code 7 = .ok (.ifCond .lt 11, 3) := by decide +kernel
theorem d30_10 : decode jdk_52_method_5_code 10 = .ok (.iload_n 1, 1) := by decide +kernel
theorem d30_11 : decode jdk_52_method_5_code 11 = .ok (.aload_n 0, 1) := by decide +kernel
theorem d30_12 : decode jdk_52_method_5_code 12 = .ok (.invokestatic 48, 3) := by decide +kernel
theorem d30_15 : decode jdk_52_method_5_code 15 = .ok (.if_icmp .lt 13, 3) := by decide +kernel
theorem d30_18 : decode jdk_52_method_5_code 18 = .ok (.new 52, 3) := by decide +kernel
theorem d30_21 : decode jdk_52_method_5_code 21 = .ok (.dup, 1) := by decide +kernel
theorem d30_22 : decode jdk_52_method_5_code 22 = .ok (.ldc 54, 2) := by decide +kernel
theorem d30_24 : decode jdk_52_method_5_code 24 = .ok (.invokespecial 56, 3) := by decide +kernel
theorem d30_27 : decode jdk_52_method_5_code 27 = .ok (.athrow, 1) := by decide +kernel
theorem d30_28 : decode jdk_52_method_5_code 28 = .ok (.iload_n 1, 1) := by decide +kernel
theorem d30_29 : decode jdk_52_method_5_code 29 = .ok (.iconst 1, 1) := by decide +kernel
theorem d30_30 : decode jdk_52_method_5_code 30 = .ok (.ishl, 1) := by decide +kernel
theorem d30_31 : decode jdk_52_method_5_code 31 = .ok (.istore_n 1, 1) := by decide +kernel
theorem d30_32 : decode jdk_52_method_5_code 32 = .ok (.aload_n 0, 1) := by decide +kernel
theorem d30_33 : decode jdk_52_method_5_code 33 = .ok (.iload_n 1, 1) := by decide +kernel
theorem d30_34 : decode jdk_52_method_5_code 34 = .ok (.iinc 1 1, 3) := by decide +kernel
theorem d30_37 : decode jdk_52_method_5_code 37 = .ok (.baload, 1) := by decide +kernel
theorem d30_38 : decode jdk_52_method_5_code 38 = .ok (.sipush 255, 3) := by decide +kernel
theorem d30_41 : decode jdk_52_method_5_code 41 = .ok (.iand, 1) := by decide +kernel
theorem d30_42 : decode jdk_52_method_5_code 42 = .ok (.getstatic 59, 3) := by decide +kernel
theorem d30_45 : decode jdk_52_method_5_code 45 = .ok (.ishl, 1) := by decide +kernel
theorem d30_46 : decode jdk_52_method_5_code 46 = .ok (.aload_n 0, 1) := by decide +kernel
theorem d30_47 : decode jdk_52_method_5_code 47 = .ok (.iload_n 1, 1) := by decide +kernel
theorem d30_48 : decode jdk_52_method_5_code 48 = .ok (.baload, 1) := by decide +kernel
theorem d30_49 : decode jdk_52_method_5_code 49 = .ok (.sipush 255, 3) := by decide +kernel
theorem d30_52 : decode jdk_52_method_5_code 52 = .ok (.iand, 1) := by decide +kernel
theorem d30_53 : decode jdk_52_method_5_code 53 = .ok (.getstatic 63, 3) := by decide +kernel
theorem d30_56 : decode jdk_52_method_5_code 56 = .ok (.ishl, 1) := by decide +kernel
theorem d30_57 : decode jdk_52_method_5_code 57 = .ok (.ior, 1) := by decide +kernel
theorem d30_58 : decode jdk_52_method_5_code 58 = .ok (.i2c, 1) := by decide +kernel
theorem d30_59 : decode jdk_52_method_5_code 59 = .ok (.ireturn, 1) := by decide +kernel
theorem ef_30 (m : MethodId) (b1 : Addr) (p1 : Int32) : entryFrame m #[(.ref b1), (.int p1)] 2 = mkF m 0 #[.val (.ref b1), .val (.int p1)] [] := by first | (simp [entryFrame, mkF, argsToLocals, Value.category]; done) | rfl
def Q30 (Z : State) (b1 : Addr) (p1 : Int32) (x : Int32) (y : Int32) (cs : Int32) (sf : Value) (h0 : Heap) (n0 : Nat) (v : Option Value) (h : Heap) (L : List Loc) : Prop := v = some (.int (own_u x y)) ∧ Fr n0 L ∧ h = h0
set_option maxRecDepth 65536 in
set_option maxHeartbeats 40000000 in
theorem rm30 (l : Launch) (Z : State) (a0 : Array Value) (hw : ∀ d ∈ tables_1, d.before a0 Z = true) (ws : List Jvm.Cond) (b1 : Addr) (p1 : Int32) (x : Int32) (y : Int32) (cs : Int32) (sf : Value) (h0 : Heap) (n0 : Nat) (Z0 : n0 ≤ h0.size) (O0 : Old Z n0 h0) (S1 : Sta Z Z.heap "java/lang/String" "COMPACT_STRINGS" "Z" (.int cs)) (hcs : ¬ cs = 0) (S2 : Sta Z Z.heap "jdk/internal/util/Preconditions" "SIOOBE_FORMATTER" "Ljava/util/function/BiFunction;" sf) (hsf : sf = .null ∨ ∃ fa, sf = .ref fa) (S3 : Sta Z Z.heap "java/lang/StringUTF16" "$assertionsDisabled" "Z" (.int (1 : Int32))) (S4 : Sta Z Z.heap "java/lang/StringUTF16" "HI_BYTE_SHIFT" "I" (.int (0 : Int32))) (S5 : Sta Z Z.heap "java/lang/StringUTF16" "LO_BYTE_SHIFT" "I" (.int (8 : Int32))) (hp : p1 = 0) (V1 : Aw Z h0 b1 .byte 2 (fun i => .int (if i = 0 then x else y))) :
    MetFree l (⟨"java/lang/StringUTF16", "getChar", "([BI)C"⟩ : MethodName) (head1 (Jvm.Cond.code (⟨"java/lang/StringUTF16", "getChar", "([BI)C"⟩ : MethodName) jdk_52_method_5_code 2 (some .char) :: ws) ({ frames := 0, cells := 0, slots := 0, locals := 0 } : Room)) (fun a U => a = #[(.ref b1), (.int p1)] ∧ Z.Warmed39 U.vm ∧ U.heap = h0) (fun _ _ _ _ _ => True) (fun _ U o U' => ∃ v L, o = .returned v ∧ Q30 Z b1 p1 x y cs sf h0 n0 v U'.heap L ∧ FrameEnd U o U' L ({ frames := 0, cells := 0, slots := 0, locals := 0 } : Room).cells ({ frames := 0, cells := 0, slots := 0, locals := 0 } : Room).slots) := by
  refine MetFree.of_bodySF (plainFor_of_name pn_29) hisR ?_
  intro p e s m args below meth c s₁ Bd hml0 hP hK
  obtain ⟨rfl, hZ, hh⟩ := hP
  have hx := Bd.exec
  have hby := Bd.bytes
  have hlk := Bd.notSynchronized
  have hml : c.maxLocals = 2 := hml0
  have hown : s.vm.findClass "java/lang/StringUTF16" = some m.cls := findClass_of_methodNamed Bd.named
  have hnm := (name_of_methodNamed Bd.named Bd.method).1
  have X0 : Stand p l e ({ frames := 0, cells := 0, slots := 0, locals := 0 } : Room) s m #[(.ref b1), (.int p1)] below meth c s₁ [] 0 0 := Stand.of_body Bd
  have e0 : s₁.heap = h0 := by rw [← hh, Bd.state]; rfl
  have N0 := Fr.nil n0
  show Goes p e below s 0 0 (Q30 Z b1 p1 x y cs sf h0 n0) s₁ (entryFrame m #[(.ref b1), (.int p1)] 2)
  refine goEq (ef_30 m b1 p1) ?_
  refine goEq (g' := (mkF m 0 #[.val (.ref b1), .val (.int (0 : Int32))] [])) (by rw [hp]) ?_
  obtain ⟨T1008, X1008, e1008, st1008⟩ := getS2 X0 hx hZ hown (host := "") (Or.inl (hw _ (List.mem_of_getElem? (i := 110) rfl))) Via.refl e0 (S3.ext O0.2) (g := (mkF m 0 #[.val (.ref b1), .val (.int (0 : Int32))] [])) rfl (hb hby d30_0)
  refine go (T' := T1008) (g' := (mkF m 3 #[.val (.ref b1), .val (.int (0 : Int32))] [(.int (1 : Int32))])) st1008 ?_
  refine go (T' := T1008) (g' := (mkF m 28 #[.val (.ref b1), .val (.int (0 : Int32))] [])) (fun t kt => XS.ifYes X1008.here hx rfl (pc0 := 3) (pc' := 28) rfl (hb hby d30_3) rfl ((if0 _ _).trans (feq (by decide)).2) (by decide) (by decide) kt) ?_
  refine go (T' := T1008) (g' := (mkF m 29 #[.val (.ref b1), .val (.int (0 : Int32))] [(.int (0 : Int32))])) (fun t kt => XS.iloadN X1008.here hx rfl (hb hby d30_28) rfl kt) ?_
  refine go (T' := T1008) (g' := (mkF m 30 #[.val (.ref b1), .val (.int (0 : Int32))] [(.int (1 : Int32)), (.int (0 : Int32))])) (fun t kt => XS.iconst X1008.here hx rfl (hb hby d30_29) kt) ?_
  refine go (T' := T1008) (g' := (mkF m 31 #[.val (.ref b1), .val (.int (0 : Int32))] [(.int ((0 : Int32) <<< ((1 : Int32) &&& 31)))])) (fun t kt => XS.ishl X1008.here hx rfl (hb hby d30_30) rfl kt) ?_
  refine goEq (g' := (mkF m 31 #[.val (.ref b1), .val (.int (0 : Int32))] [(.int (0 : Int32))])) (rfl) ?_
  refine go (T' := T1008) (g' := (mkF m 32 #[.val (.ref b1), .val (.int (0 : Int32))] [])) (fun t kt => XS.istoreN X1008.here hx rfl (hb hby d30_31) rfl (l' := #[.val (.ref b1), .val (.int (0 : Int32))]) rfl kt) ?_
  refine go (T' := T1008) (g' := (mkF m 33 #[.val (.ref b1), .val (.int (0 : Int32))] [(.ref b1)])) (fun t kt => XS.aloadN X1008.here hx rfl (hb hby d30_32) rfl rfl kt) ?_
  refine go (T' := T1008) (g' := (mkF m 34 #[.val (.ref b1), .val (.int (0 : Int32))] [(.int (0 : Int32)), (.ref b1)])) (fun t kt => XS.iloadN X1008.here hx rfl (hb hby d30_33) rfl kt) ?_
  refine go (T' := T1008) (g' := (mkF m 37 #[.val (.ref b1), .val (.int ((0 : Int32) + (1 : Int32)))] [(.int (0 : Int32)), (.ref b1)])) (fun t kt => XS.iinc X1008.here hx rfl (hb hby d30_34) rfl (l' := #[.val (.ref b1), .val (.int ((0 : Int32) + (1 : Int32)))]) rfl kt) ?_
  refine goEq (g' := (mkF m 37 #[.val (.ref b1), .val (.int (1 : Int32))] [(.int (0 : Int32)), (.ref b1)])) (rfl) ?_
  refine go (T' := T1008) (g' := (mkF m 38 #[.val (.ref b1), .val (.int (1 : Int32))] [(.int x)])) (fun t kt => own_ldB X1008 hx hZ e1008 V1 (j := (0 : Int32)) ⟨by decide, by decide⟩ (v := (.int x)) rfl (g := (mkF m 37 #[.val (.ref b1), .val (.int (1 : Int32))] [(.int (0 : Int32)), (.ref b1)])) rfl rfl (hb hby d30_37) _ kt) ?_
  refine go (T' := T1008) (g' := (mkF m 41 #[.val (.ref b1), .val (.int (1 : Int32))] [(.int (255 : Int32)), (.int x)])) (fun t kt => XS.sipush X1008.here hx rfl (hb hby d30_38) kt) ?_
  refine go (T' := T1008) (g' := (mkF m 42 #[.val (.ref b1), .val (.int (1 : Int32))] [(.int (x &&& (255 : Int32)))])) (fun t kt => XS.iand X1008.here hx rfl (hb hby d30_41) rfl kt) ?_
  obtain ⟨T1009, X1009, e1009, st1009⟩ := getS2 X1008 hx hZ hown (host := "") (Or.inl (hw _ (List.mem_of_getElem? (i := 111) rfl))) Via.refl e1008 (S4.ext O0.2) (g := (mkF m 42 #[.val (.ref b1), .val (.int (1 : Int32))] [(.int (x &&& (255 : Int32)))])) rfl (hb hby d30_42)
  refine go (T' := T1009) (g' := (mkF m 45 #[.val (.ref b1), .val (.int (1 : Int32))] [(.int (0 : Int32)), (.int (x &&& (255 : Int32)))])) st1009 ?_
  refine go (T' := T1009) (g' := (mkF m 46 #[.val (.ref b1), .val (.int (1 : Int32))] [(.int ((x &&& (255 : Int32)) <<< ((0 : Int32) &&& 31)))])) (fun t kt => XS.ishl X1009.here hx rfl (hb hby d30_45) rfl kt) ?_
  refine go (T' := T1009) (g' := (mkF m 47 #[.val (.ref b1), .val (.int (1 : Int32))] [(.ref b1), (.int ((x &&& (255 : Int32)) <<< ((0 : Int32) &&& 31)))])) (fun t kt => XS.aloadN X1009.here hx rfl (hb hby d30_46) rfl rfl kt) ?_
  refine go (T' := T1009) (g' := (mkF m 48 #[.val (.ref b1), .val (.int (1 : Int32))] [(.int (1 : Int32)), (.ref b1), (.int ((x &&& (255 : Int32)) <<< ((0 : Int32) &&& 31)))])) (fun t kt => XS.iloadN X1009.here hx rfl (hb hby d30_47) rfl kt) ?_
  refine go (T' := T1009) (g' := (mkF m 49 #[.val (.ref b1), .val (.int (1 : Int32))] [(.int y), (.int ((x &&& (255 : Int32)) <<< ((0 : Int32) &&& 31)))])) (fun t kt => own_ldB X1009 hx hZ e1009 V1 (j := (1 : Int32)) ⟨by decide, by decide⟩ (v := (.int y)) rfl (g := (mkF m 48 #[.val (.ref b1), .val (.int (1 : Int32))] [(.int (1 : Int32)), (.ref b1), (.int ((x &&& (255 : Int32)) <<< ((0 : Int32) &&& 31)))])) rfl rfl (hb hby d30_48) _ kt) ?_
  refine go (T' := T1009) (g' := (mkF m 52 #[.val (.ref b1), .val (.int (1 : Int32))] [(.int (255 : Int32)), (.int y), (.int ((x &&& (255 : Int32)) <<< ((0 : Int32) &&& 31)))])) (fun t kt => XS.sipush X1009.here hx rfl (hb hby d30_49) kt) ?_
  refine go (T' := T1009) (g' := (mkF m 53 #[.val (.ref b1), .val (.int (1 : Int32))] [(.int (y &&& (255 : Int32))), (.int ((x &&& (255 : Int32)) <<< ((0 : Int32) &&& 31)))])) (fun t kt => XS.iand X1009.here hx rfl (hb hby d30_52) rfl kt) ?_
  obtain ⟨T1010, X1010, e1010, st1010⟩ := getS2 X1009 hx hZ hown (host := "") (Or.inl (hw _ (List.mem_of_getElem? (i := 112) rfl))) Via.refl e1009 (S5.ext O0.2) (g := (mkF m 53 #[.val (.ref b1), .val (.int (1 : Int32))] [(.int (y &&& (255 : Int32))), (.int ((x &&& (255 : Int32)) <<< ((0 : Int32) &&& 31)))])) rfl (hb hby d30_53)
  refine go (T' := T1010) (g' := (mkF m 56 #[.val (.ref b1), .val (.int (1 : Int32))] [(.int (8 : Int32)), (.int (y &&& (255 : Int32))), (.int ((x &&& (255 : Int32)) <<< ((0 : Int32) &&& 31)))])) st1010 ?_
  refine go (T' := T1010) (g' := (mkF m 57 #[.val (.ref b1), .val (.int (1 : Int32))] [(.int ((y &&& (255 : Int32)) <<< ((8 : Int32) &&& 31))), (.int ((x &&& (255 : Int32)) <<< ((0 : Int32) &&& 31)))])) (fun t kt => XS.ishl X1010.here hx rfl (hb hby d30_56) rfl kt) ?_
  refine go (T' := T1010) (g' := (mkF m 58 #[.val (.ref b1), .val (.int (1 : Int32))] [(.int (((x &&& (255 : Int32)) <<< ((0 : Int32) &&& 31)) ||| ((y &&& (255 : Int32)) <<< ((8 : Int32) &&& 31))))])) (fun t kt => XS.ior X1010.here hx rfl (hb hby d30_57) rfl kt) ?_
  refine go (T' := T1010) (g' := (mkF m 59 #[.val (.ref b1), .val (.int (1 : Int32))] [(.int ((((x &&& (255 : Int32)) <<< ((0 : Int32) &&& 31)) ||| ((y &&& (255 : Int32)) <<< ((8 : Int32) &&& 31))).toUInt32.toUInt16.toUInt32.toInt32))])) (fun t kt => XS.i2c X1010.here hx rfl (hb hby d30_58) rfl kt) ?_
  refine goRetN X1010 hx hlk (t := .char) Bd.returns (by simp) (hb hby d30_59) ?_ (by decide) (by decide)
  rw [e1010]
  exact ⟨rfl, N0, rfl⟩
theorem d27_0 : decode jdk_52_method_83_code 0 = .ok (.iload_n 1, 1) := by decide +kernel
theorem d27_1 : decode jdk_52_method_83_code 1 = .ok (.aload_n 0, 1) := by decide +kernel
theorem d27_2 : decode jdk_52_method_83_code 2 = .ok (.invokestatic 67, 3) := by decide +kernel
theorem d27_5 : decode jdk_52_method_83_code 5 = .ok (.aload_n 0, 1) := by decide +kernel
theorem d27_6 : decode jdk_52_method_83_code 6 = .ok (.iload_n 1, 1) := by decide +kernel
theorem d27_7 : decode jdk_52_method_83_code 7 = .ok (.invokestatic 71, 3) := by decide +kernel
theorem d27_10 : decode jdk_52_method_83_code 10 = .ok (.ireturn, 1) := by decide +kernel
theorem pd_3 : parseMethodDescriptor "(I[B)V" = some ⟨[.int, (.array .byte)], none⟩ := by decide +kernel
theorem pd_4 : parseMethodDescriptor "([BI)C" = some ⟨[(.array .byte), .int], some .char⟩ := by decide +kernel
theorem ef_27 (m : MethodId) (b1 : Addr) (p1 : Int32) : entryFrame m #[(.ref b1), (.int p1)] 2 = mkF m 0 #[.val (.ref b1), .val (.int p1)] [] := by first | (simp [entryFrame, mkF, argsToLocals, Value.category]; done) | rfl
def Q27 (Z : State) (b1 : Addr) (p1 : Int32) (x : Int32) (y : Int32) (cs : Int32) (sf : Value) (h0 : Heap) (n0 : Nat) (v : Option Value) (h : Heap) (L : List Loc) : Prop := v = some (.int (own_u x y)) ∧ Fr n0 L ∧ h = h0
set_option maxRecDepth 65536 in
set_option maxHeartbeats 40000000 in
theorem rm27 (l : Launch) (Z : State) (a0 : Array Value) (hw : ∀ d ∈ tables_1, d.before a0 Z = true) (ws : List Jvm.Cond) (b1 : Addr) (p1 : Int32) (x : Int32) (y : Int32) (cs : Int32) (sf : Value) (h0 : Heap) (n0 : Nat) (Z0 : n0 ≤ h0.size) (O0 : Old Z n0 h0) (S1 : Sta Z Z.heap "java/lang/String" "COMPACT_STRINGS" "Z" (.int cs)) (hcs : ¬ cs = 0) (S2 : Sta Z Z.heap "jdk/internal/util/Preconditions" "SIOOBE_FORMATTER" "Ljava/util/function/BiFunction;" sf) (hsf : sf = .null ∨ ∃ fa, sf = .ref fa) (S3 : Sta Z Z.heap "java/lang/StringUTF16" "$assertionsDisabled" "Z" (.int (1 : Int32))) (S4 : Sta Z Z.heap "java/lang/StringUTF16" "HI_BYTE_SHIFT" "I" (.int (0 : Int32))) (S5 : Sta Z Z.heap "java/lang/StringUTF16" "LO_BYTE_SHIFT" "I" (.int (8 : Int32))) (hp : p1 = 0) (V1 : Aw Z h0 b1 .byte 2 (fun i => .int (if i = 0 then x else y))) :
    MetFree l (⟨"java/lang/StringUTF16", "charAt", "([BI)C"⟩ : MethodName) (head1 (Jvm.Cond.code (⟨"java/lang/StringUTF16", "charAt", "([BI)C"⟩ : MethodName) jdk_52_method_83_code 2 (some .char) :: ws) ({ frames := 3, cells := 0, slots := 0, locals := 40 } : Room)) (fun a U => a = #[(.ref b1), (.int p1)] ∧ Z.Warmed39 U.vm ∧ U.heap = h0) (fun _ _ _ _ _ => True) (fun _ U o U' => ∃ v L, o = .returned v ∧ Q27 Z b1 p1 x y cs sf h0 n0 v U'.heap L ∧ FrameEnd U o U' L ({ frames := 3, cells := 0, slots := 0, locals := 40 } : Room).cells ({ frames := 3, cells := 0, slots := 0, locals := 40 } : Room).slots) := by
  refine MetFree.of_bodySF (plainFor_of_name pn_29) hisR ?_
  intro p e s m args below meth c s₁ Bd hml0 hP hK
  obtain ⟨rfl, hZ, hh⟩ := hP
  have hx := Bd.exec
  have hby := Bd.bytes
  have hlk := Bd.notSynchronized
  have hml : c.maxLocals = 2 := hml0
  have hown : s.vm.findClass "java/lang/StringUTF16" = some m.cls := findClass_of_methodNamed Bd.named
  have hnm := (name_of_methodNamed Bd.named Bd.method).1
  have X0 : Stand p l e ({ frames := 3, cells := 0, slots := 0, locals := 40 } : Room) s m #[(.ref b1), (.int p1)] below meth c s₁ [] 0 0 := Stand.of_body Bd
  have e0 : s₁.heap = h0 := by rw [← hh, Bd.state]; rfl
  have N0 := Fr.nil n0
  show Goes p e below s 0 0 (Q27 Z b1 p1 x y cs sf h0 n0) s₁ (entryFrame m #[(.ref b1), (.int p1)] 2)
  refine goEq (ef_27 m b1 p1) ?_
  refine goEq (g' := (mkF m 0 #[.val (.ref b1), .val (.int (0 : Int32))] [])) (by rw [hp]) ?_
  refine go (T' := s₁) (g' := (mkF m 1 #[.val (.ref b1), .val (.int (0 : Int32))] [(.int (0 : Int32))])) (fun t kt => XS.iloadN X0.here hx rfl (hb hby d27_0) rfl kt) ?_
  refine go (T' := s₁) (g' := (mkF m 2 #[.val (.ref b1), .val (.int (0 : Int32))] [(.ref b1), (.int (0 : Int32))])) (fun t kt => XS.aloadN X0.here hx rfl (hb hby d27_1) rfl rfl kt) ?_
  obtain ⟨_, _, ⟨T1011, L1011, k1011, n1011⟩, -, X1011, ⟨Lc1011, hQ1011, l1011, y1011, z1011⟩, st1011⟩ := Jvm.LawKit.callS X0 hx (y := (⟨"java/lang/StringUTF16", "checkIndex", "(I[B)V"⟩ : MethodName)) hown (mvT hZ (hw _ (List.mem_of_getElem? (i := 116) rfl))) (mvT hZ (hw _ (List.mem_of_getElem? (i := 117) rfl))) (mvT hZ (hw _ (List.mem_of_getElem? (i := 105) rfl))) (mvT hZ (hw _ (List.mem_of_getElem? (i := 118) rfl))) (by decide) (backOf (W := 0) (rm28 l Z a0 hw [] 0 b1 x y cs sf h0 n0 Z0 O0 S1 hcs S2 hsf S3 S4 S5 rfl V1) hZ (hw _ (List.mem_of_getElem? (i := 118) rfl)) (hw _ (List.mem_of_getElem? (i := 105) rfl)) (by decide) (by decide)) (g := (mkF m 2 #[.val (.ref b1), .val (.int (0 : Int32))] [(.ref b1), (.int (0 : Int32))])) rfl (by rw [hml]; rfl) (argsL := [(.int (0 : Int32)), (.ref b1)]) (rest := []) (lenOf pd_3 rfl) rfl (by show 2 * 0 + _ ≤ _; exact Nat.le_of_eq rfl) (hb hby d27_2) (fun _ _ => ⟨rfl, e0, (by decide : 0 + 0 ≤ _), (by decide : 0 + 0 ≤ _)⟩)
  dsimp only [Pt.U, Pt.locs, Pt.cells, Pt.slots] at X1011 l1011 y1011 z1011 st1011 hQ1011
  subst l1011 y1011 z1011
  obtain ⟨rfl, N1011q, e1011⟩ := hQ1011
  have N1011 := Fr.app N0 N1011q
  refine go (T' := T1011) (g' := (mkF m 5 #[.val (.ref b1), .val (.int (0 : Int32))] [])) st1011 ?_
  refine go (T' := T1011) (g' := (mkF m 6 #[.val (.ref b1), .val (.int (0 : Int32))] [(.ref b1)])) (fun t kt => XS.aloadN X1011.here hx rfl (hb hby d27_5) rfl rfl kt) ?_
  refine go (T' := T1011) (g' := (mkF m 7 #[.val (.ref b1), .val (.int (0 : Int32))] [(.int (0 : Int32)), (.ref b1)])) (fun t kt => XS.iloadN X1011.here hx rfl (hb hby d27_6) rfl kt) ?_
  obtain ⟨_, _, ⟨T1012, L1012, k1012, n1012⟩, -, X1012, ⟨Lc1012, hQ1012, l1012, y1012, z1012⟩, st1012⟩ := Jvm.LawKit.callS X1011 hx (y := (⟨"java/lang/StringUTF16", "getChar", "([BI)C"⟩ : MethodName)) hown (mvT hZ (hw _ (List.mem_of_getElem? (i := 123) rfl))) (mvT hZ (hw _ (List.mem_of_getElem? (i := 124) rfl))) (mvT hZ (hw _ (List.mem_of_getElem? (i := 105) rfl))) (mvT hZ (hw _ (List.mem_of_getElem? (i := 125) rfl))) (by decide) (backOf (W := 0) (rm30 l Z a0 hw [] b1 0 x y cs sf h0 n0 Z0 O0 S1 hcs S2 hsf S3 S4 S5 rfl V1) hZ (hw _ (List.mem_of_getElem? (i := 125) rfl)) (hw _ (List.mem_of_getElem? (i := 105) rfl)) (by decide) (by decide)) (g := (mkF m 7 #[.val (.ref b1), .val (.int (0 : Int32))] [(.int (0 : Int32)), (.ref b1)])) rfl (by rw [hml]; rfl) (argsL := [(.ref b1), (.int (0 : Int32))]) (rest := []) (lenOf pd_4 rfl) rfl (by show 2 * 0 + _ ≤ _; exact Nat.le_of_eq rfl) (hb hby d27_7) (fun _ _ => ⟨rfl, e1011, (by decide : 0 + 0 ≤ _), (by decide : 0 + 0 ≤ _)⟩)
  dsimp only [Pt.U, Pt.locs, Pt.cells, Pt.slots] at X1012 l1012 y1012 z1012 st1012 hQ1012
  subst l1012 y1012 z1012
  obtain ⟨rfl, N1012q, e1012⟩ := hQ1012
  have N1012 := Fr.app N1011 N1012q
  refine go (T' := T1012) (g' := (mkF m 10 #[.val (.ref b1), .val (.int (0 : Int32))] [(.int (own_u x y))])) st1012 ?_
  refine goRetN X1012 hx hlk (t := .char) Bd.returns (by simp) (hb hby d27_10) ?_ (by decide) (by decide)
  rw [e1012]
  exact ⟨by rw [show nar .char (own_u x y) = own_u x y from by simp only [nar, own_u, UInt32.toUInt32_toInt32, UInt16.toUInt16_toUInt32]], N1012, rfl⟩
theorem d9_0 : decode jdk_42_method_152_code 0 = .ok (.getstatic 38, 3) := by decide +kernel
theorem d9_3 : decode jdk_42_method_152_code 3 = .ok (.ifCond .eq 10, 3) := by decide +kernel
theorem d9_6 : decode jdk_42_method_152_code 6 = .ok (.aload_n 0, 1) := by decide +kernel
theorem d9_7 : decode jdk_42_method_152_code 7 = .ok (.getfield 15, 3) := by decide +kernel
theorem d9_10 : decode jdk_42_method_152_code 10 = .ok (.goto 4, 3) := by decide +kernel
theorem d9_13 : decode jdk_42_method_152_code 13 = .ok (.iconst 1, 1) := by decide +kernel
theorem d9_14 : decode jdk_42_method_152_code 14 = .ok (.ireturn, 1) := by decide +kernel
theorem ef__codL (m : MethodId) (a1 : Addr) : entryFrame m #[(.ref a1)] 1 = mkF m 0 #[.val (.ref a1)] [] := by first | (simp [entryFrame, mkF, argsToLocals, Value.category]; done) | rfl
def Q_codL (Z : State) (a1 : Addr) (b1 : Addr) (x : Int32) (cs : Int32) (sf : Value) (h0 : Heap) (n0 : Nat) (v : Option Value) (h : Heap) (L : List Loc) : Prop := v = some (.int (0 : Int32)) ∧ Fr n0 L ∧ h = h0
set_option maxRecDepth 65536 in
set_option maxHeartbeats 40000000 in
theorem rm_codL (l : Launch) (Z : State) (a0 : Array Value) (hw : ∀ d ∈ tables_1, d.before a0 Z = true) (ws : List Jvm.Cond) (a1 : Addr) (b1 : Addr) (x : Int32) (cs : Int32) (sf : Value) (h0 : Heap) (n0 : Nat) (Z0 : n0 ≤ h0.size) (O0 : Old Z n0 h0) (S1 : Sta Z Z.heap "java/lang/String" "COMPACT_STRINGS" "Z" (.int cs)) (hcs : ¬ cs = 0) (S2 : Sta Z Z.heap "jdk/internal/util/Preconditions" "SIOOBE_FORMATTER" "Ljava/util/function/BiFunction;" sf) (hsf : sf = .null ∨ ∃ fa, sf = .ref fa) (S3 : Sta Z Z.heap "java/lang/StringUTF16" "$assertionsDisabled" "Z" (.int (1 : Int32))) (S4 : Sta Z Z.heap "java/lang/StringUTF16" "HI_BYTE_SHIFT" "I" (.int (0 : Int32))) (S5 : Sta Z Z.heap "java/lang/StringUTF16" "LO_BYTE_SHIFT" "I" (.int (8 : Int32))) (E1 : Exa Z h0 a1 "java/lang/String") (Fv : Fld Z h0 a1 "java/lang/String" "value" "[B" (.ref b1)) (Fc : Fld Z h0 a1 "java/lang/String" "coder" "B" (.int (0 : Int32))) (V1 : Aw Z h0 b1 .byte (1 : Int32) (fun _ => .int x)) :
    MetFree l (⟨"java/lang/String", "coder", "()B"⟩ : MethodName) (head1 (Jvm.Cond.code (⟨"java/lang/String", "coder", "()B"⟩ : MethodName) jdk_42_method_152_code 1 (some .byte) :: ws) ({ frames := 0, cells := 0, slots := 0, locals := 0 } : Room)) (fun a U => a = #[(.ref a1)] ∧ Z.Warmed39 U.vm ∧ U.heap = h0) (fun _ _ _ _ _ => True) (fun _ U o U' => ∃ v L, o = .returned v ∧ Q_codL Z a1 b1 x cs sf h0 n0 v U'.heap L ∧ FrameEnd U o U' L ({ frames := 0, cells := 0, slots := 0, locals := 0 } : Room).cells ({ frames := 0, cells := 0, slots := 0, locals := 0 } : Room).slots) := by
  refine MetFree.of_bodySF (plainFor_of_name pn_16) hisR ?_
  intro p e s m args below meth c s₁ Bd hml0 hP hK
  obtain ⟨rfl, hZ, hh⟩ := hP
  have hx := Bd.exec
  have hby := Bd.bytes
  have hlk := Bd.notSynchronized
  have hml : c.maxLocals = 1 := hml0
  have hown : s.vm.findClass "java/lang/String" = some m.cls := findClass_of_methodNamed Bd.named
  have hnm := (name_of_methodNamed Bd.named Bd.method).1
  have X0 : Stand p l e ({ frames := 0, cells := 0, slots := 0, locals := 0 } : Room) s m #[(.ref a1)] below meth c s₁ [] 0 0 := Stand.of_body Bd
  have e0 : s₁.heap = h0 := by rw [← hh, Bd.state]; rfl
  have N0 := Fr.nil n0
  show Goes p e below s 0 0 (Q_codL Z a1 b1 x cs sf h0 n0) s₁ (entryFrame m #[(.ref a1)] 1)
  refine goEq (ef__codL m a1) ?_
  obtain ⟨T1013, X1013, e1013, st1013⟩ := getS2 X0 hx hZ hown (host := "") (Or.inl (hw _ (List.mem_of_getElem? (i := 8) rfl))) Via.refl e0 (S1.ext O0.2) (g := (mkF m 0 #[.val (.ref a1)] [])) rfl (hb hby d9_0)
  refine go (T' := T1013) (g' := (mkF m 3 #[.val (.ref a1)] [(.int cs)])) st1013 ?_
  refine go (T' := T1013) (g' := (mkF m 6 #[.val (.ref a1)] [])) (fun t kt => XS.ifNo X1013.here hx rfl (hb hby d9_3) rfl ((if0 _ _).trans (feq hcs).1) kt) ?_
  refine go (T' := T1013) (g' := (mkF m 7 #[.val (.ref a1)] [(.ref a1)])) (fun t kt => XS.aloadN X1013.here hx rfl (hb hby d9_6) rfl rfl kt) ?_
  obtain ⟨T1014, X1014, e1014, st1014⟩ := getF X1013 hx hZ hown (host := "") (Or.inl (hw _ (List.mem_of_getElem? (i := 28) rfl))) Via.refl e1013 Fc (g := (mkF m 7 #[.val (.ref a1)] [(.ref a1)])) rfl rfl (hb hby d9_7)
  refine go (T' := T1014) (g' := (mkF m 10 #[.val (.ref a1)] [(.int (0 : Int32))])) st1014 ?_
  refine go (T' := T1014) (g' := (mkF m 14 #[.val (.ref a1)] [(.int (0 : Int32))])) (fun t kt => XS.goto X1014.here hx rfl (pc0 := 10) (pc' := 14) rfl (hb hby d9_10) (by decide) (by decide) kt) ?_
  refine goRetN X1014 hx hlk (t := .byte) Bd.returns (by simp) (hb hby d9_14) ?_ (by decide) (by decide)
  rw [e1014]
  exact ⟨rfl, N0, rfl⟩
theorem d8_0 : decode jdk_42_method_54_code 0 = .ok (.aload_n 0, 1) := by decide +kernel
theorem d8_1 : decode jdk_42_method_54_code 1 = .ok (.getfield 9, 3) := by decide +kernel
theorem d8_4 : decode jdk_42_method_54_code 4 = .ok (.arraylength, 1) := by decide +kernel
theorem d8_5 : decode jdk_42_method_54_code 5 = .ok (.aload_n 0, 1) := by decide +kernel
theorem d8_6 : decode jdk_42_method_54_code 6 = .ok (.invokevirtual 335, 3) := by decide +kernel
theorem d8_9 : decode jdk_42_method_54_code 9 = .ok (.ishr, 1) := by decide +kernel
theorem d8_10 : decode jdk_42_method_54_code 10 = .ok (.ireturn, 1) := by decide +kernel
theorem pd_5 : parseMethodDescriptor "()B" = some ⟨[], some .byte⟩ := by decide +kernel
theorem ef__lenL (m : MethodId) (a1 : Addr) : entryFrame m #[(.ref a1)] 1 = mkF m 0 #[.val (.ref a1)] [] := by first | (simp [entryFrame, mkF, argsToLocals, Value.category]; done) | rfl
def Q_lenL (Z : State) (a1 : Addr) (b1 : Addr) (x : Int32) (cs : Int32) (sf : Value) (h0 : Heap) (n0 : Nat) (v : Option Value) (h : Heap) (L : List Loc) : Prop := v = some (.int 1) ∧ Fr n0 L ∧ h = h0
set_option maxRecDepth 65536 in
set_option maxHeartbeats 40000000 in
theorem rm_lenL (l : Launch) (Z : State) (a0 : Array Value) (hw : ∀ d ∈ tables_1, d.before a0 Z = true) (ws : List Jvm.Cond) (a1 : Addr) (b1 : Addr) (x : Int32) (cs : Int32) (sf : Value) (h0 : Heap) (n0 : Nat) (Z0 : n0 ≤ h0.size) (O0 : Old Z n0 h0) (S1 : Sta Z Z.heap "java/lang/String" "COMPACT_STRINGS" "Z" (.int cs)) (hcs : ¬ cs = 0) (S2 : Sta Z Z.heap "jdk/internal/util/Preconditions" "SIOOBE_FORMATTER" "Ljava/util/function/BiFunction;" sf) (hsf : sf = .null ∨ ∃ fa, sf = .ref fa) (S3 : Sta Z Z.heap "java/lang/StringUTF16" "$assertionsDisabled" "Z" (.int (1 : Int32))) (S4 : Sta Z Z.heap "java/lang/StringUTF16" "HI_BYTE_SHIFT" "I" (.int (0 : Int32))) (S5 : Sta Z Z.heap "java/lang/StringUTF16" "LO_BYTE_SHIFT" "I" (.int (8 : Int32))) (E1 : Exa Z h0 a1 "java/lang/String") (Fv : Fld Z h0 a1 "java/lang/String" "value" "[B" (.ref b1)) (Fc : Fld Z h0 a1 "java/lang/String" "coder" "B" (.int (0 : Int32))) (V1 : Aw Z h0 b1 .byte (1 : Int32) (fun _ => .int x)) :
    MetFree l (⟨"java/lang/String", "length", "()I"⟩ : MethodName) (head1 (Jvm.Cond.code (⟨"java/lang/String", "length", "()I"⟩ : MethodName) jdk_42_method_54_code 1 (some .int) :: ws) ({ frames := 1, cells := 0, slots := 0, locals := 13 } : Room)) (fun a U => a = #[(.ref a1)] ∧ Z.Warmed39 U.vm ∧ U.heap = h0) (fun _ _ _ _ _ => True) (fun _ U o U' => ∃ v L, o = .returned v ∧ Q_lenL Z a1 b1 x cs sf h0 n0 v U'.heap L ∧ FrameEnd U o U' L ({ frames := 1, cells := 0, slots := 0, locals := 13 } : Room).cells ({ frames := 1, cells := 0, slots := 0, locals := 13 } : Room).slots) := by
  refine MetFree.of_bodySF (plainFor_of_name pn_16) hisR ?_
  intro p e s m args below meth c s₁ Bd hml0 hP hK
  obtain ⟨rfl, hZ, hh⟩ := hP
  have hx := Bd.exec
  have hby := Bd.bytes
  have hlk := Bd.notSynchronized
  have hml : c.maxLocals = 1 := hml0
  have hown : s.vm.findClass "java/lang/String" = some m.cls := findClass_of_methodNamed Bd.named
  have hnm := (name_of_methodNamed Bd.named Bd.method).1
  have X0 : Stand p l e ({ frames := 1, cells := 0, slots := 0, locals := 13 } : Room) s m #[(.ref a1)] below meth c s₁ [] 0 0 := Stand.of_body Bd
  have e0 : s₁.heap = h0 := by rw [← hh, Bd.state]; rfl
  have N0 := Fr.nil n0
  show Goes p e below s 0 0 (Q_lenL Z a1 b1 x cs sf h0 n0) s₁ (entryFrame m #[(.ref a1)] 1)
  refine goEq (ef__lenL m a1) ?_
  refine go (T' := s₁) (g' := (mkF m 1 #[.val (.ref a1)] [(.ref a1)])) (fun t kt => XS.aloadN X0.here hx rfl (hb hby d8_0) rfl rfl kt) ?_
  obtain ⟨T1015, X1015, e1015, st1015⟩ := getF X0 hx hZ hown (host := "") (Or.inl (hw _ (List.mem_of_getElem? (i := 26) rfl))) Via.refl e0 Fv (g := (mkF m 1 #[.val (.ref a1)] [(.ref a1)])) rfl rfl (hb hby d8_1)
  refine go (T' := T1015) (g' := (mkF m 4 #[.val (.ref a1)] [(.ref b1)])) st1015 ?_
  refine go (T' := T1015) (g' := (mkF m 5 #[.val (.ref a1)] [(.int (1 : Int32))])) (fun t kt => own_len X1015 hx hZ e1015 V1 (g := (mkF m 4 #[.val (.ref a1)] [(.ref b1)])) rfl rfl (hb hby d8_4) _ kt) ?_
  refine go (T' := T1015) (g' := (mkF m 6 #[.val (.ref a1)] [(.ref a1), (.int (1 : Int32))])) (fun t kt => XS.aloadN X1015.here hx rfl (hb hby d8_5) rfl rfl kt) ?_
  obtain ⟨cq1016, kq1016, q1016a, q1016b, q1016c⟩ := isOf hZ e1015 E1
  obtain ⟨_, _, ⟨T1016, L1016, k1016, n1016⟩, -, X1016, ⟨Lc1016, hQ1016, l1016, y1016, z1016⟩, st1016⟩ := X1015.virtualBack hx (y := (⟨"java/lang/String", "coder", "()B"⟩ : MethodName)) (z := (⟨"java/lang/String", "coder", "()B"⟩ : MethodName)) hown (mvT hZ (hw _ (List.mem_of_getElem? (i := 38) rfl))) (mvT hZ (hw _ (List.mem_of_getElem? (i := 39) rfl))) (notFace_of_selects (args := #[]) (mvT hZ (hw _ (List.mem_of_getElem? (i := 41) rfl)))) (mvT hZ (hw _ (List.mem_of_getElem? (i := 41) rfl))) (mvT hZ (hw _ (List.mem_of_getElem? (i := 40) rfl))) (by decide) (backOf (W := 1) (rm_codL l Z a0 hw [] a1 b1 x cs sf h0 n0 Z0 O0 S1 hcs S2 hsf S3 S4 S5 E1 Fv Fc V1) hZ (hw _ (List.mem_of_getElem? (i := 42) rfl)) (hw _ (List.mem_of_getElem? (i := 6) rfl)) (by decide) (by decide)) q1016a q1016c (g := (mkF m 6 #[.val (.ref a1)] [(.ref a1), (.int (1 : Int32))])) rfl (by rw [hml]; rfl) (Steps.refl _) (argsL := []) (rest := [(.int (1 : Int32))]) (lenOf pd_5 rfl) rfl (by show 2 * 0 + _ ≤ _; exact Nat.le_of_eq rfl) (hb hby d8_6) (fun _ _ => ⟨rfl, e1015, (by decide : 0 + 0 ≤ _), (by decide : 0 + 0 ≤ _)⟩)
  dsimp only [Pt.U, Pt.locs, Pt.cells, Pt.slots] at X1016 l1016 y1016 z1016 st1016 hQ1016
  subst l1016 y1016 z1016
  obtain ⟨rfl, N1016q, e1016⟩ := hQ1016
  have N1016 := Fr.app N0 N1016q
  refine goV (T' := T1016) (g' := (mkF m 9 #[.val (.ref a1)] [(.int (0 : Int32)), (.int (1 : Int32))])) st1016 ?_
  refine go (T' := T1016) (g' := (mkF m 10 #[.val (.ref a1)] [(.int ((1 : Int32) >>> ((0 : Int32) &&& 31)))])) (fun t kt => XS.ishr X1016.here hx rfl (hb hby d8_9) rfl kt) ?_
  refine goRetI X1016 hx hlk Bd.returns (hb hby d8_10) ?_ (by decide) (by decide)
  rw [e1016]
  exact ⟨rfl, N1016, rfl⟩
theorem d14_0 : decode jdk_42_method_154_code 0 = .ok (.getstatic 38, 3) := by decide +kernel
theorem d14_3 : decode jdk_42_method_154_code 3 = .ok (.ifCond .eq 14, 3) := by decide +kernel
theorem d14_6 : decode jdk_42_method_154_code 6 = .ok (.aload_n 0, 1) := by decide +kernel
theorem d14_7 : decode jdk_42_method_154_code 7 = .ok (.getfield 15, 3) := by decide +kernel
theorem d14_10 : decode jdk_42_method_154_code 10 = .ok (.ifCond .ne 7, 3) := by decide +kernel
theorem d14_13 : decode jdk_42_method_154_code 13 = .ok (.iconst 1, 1) := by decide +kernel
theorem d14_14 : decode jdk_42_method_154_code 14 = .ok (.goto 4, 3) := by decide +kernel
theorem d14_17 : decode jdk_42_method_154_code 17 = .ok (.iconst 0, 1) := by decide +kernel
theorem d14_18 : decode jdk_42_method_154_code 18 = .ok (.ireturn, 1) := by decide +kernel
theorem ef__islL (m : MethodId) (a1 : Addr) : entryFrame m #[(.ref a1)] 1 = mkF m 0 #[.val (.ref a1)] [] := by first | (simp [entryFrame, mkF, argsToLocals, Value.category]; done) | rfl
def Q_islL (Z : State) (a1 : Addr) (b1 : Addr) (x : Int32) (cs : Int32) (sf : Value) (h0 : Heap) (n0 : Nat) (v : Option Value) (h : Heap) (L : List Loc) : Prop := v = some (.int 1) ∧ Fr n0 L ∧ h = h0
set_option maxRecDepth 65536 in
set_option maxHeartbeats 40000000 in
theorem rm_islL (l : Launch) (Z : State) (a0 : Array Value) (hw : ∀ d ∈ tables_1, d.before a0 Z = true) (ws : List Jvm.Cond) (a1 : Addr) (b1 : Addr) (x : Int32) (cs : Int32) (sf : Value) (h0 : Heap) (n0 : Nat) (Z0 : n0 ≤ h0.size) (O0 : Old Z n0 h0) (S1 : Sta Z Z.heap "java/lang/String" "COMPACT_STRINGS" "Z" (.int cs)) (hcs : ¬ cs = 0) (S2 : Sta Z Z.heap "jdk/internal/util/Preconditions" "SIOOBE_FORMATTER" "Ljava/util/function/BiFunction;" sf) (hsf : sf = .null ∨ ∃ fa, sf = .ref fa) (S3 : Sta Z Z.heap "java/lang/StringUTF16" "$assertionsDisabled" "Z" (.int (1 : Int32))) (S4 : Sta Z Z.heap "java/lang/StringUTF16" "HI_BYTE_SHIFT" "I" (.int (0 : Int32))) (S5 : Sta Z Z.heap "java/lang/StringUTF16" "LO_BYTE_SHIFT" "I" (.int (8 : Int32))) (E1 : Exa Z h0 a1 "java/lang/String") (Fv : Fld Z h0 a1 "java/lang/String" "value" "[B" (.ref b1)) (Fc : Fld Z h0 a1 "java/lang/String" "coder" "B" (.int (0 : Int32))) (V1 : Aw Z h0 b1 .byte (1 : Int32) (fun _ => .int x)) :
    MetFree l (⟨"java/lang/String", "isLatin1", "()Z"⟩ : MethodName) (head1 (Jvm.Cond.code (⟨"java/lang/String", "isLatin1", "()Z"⟩ : MethodName) jdk_42_method_154_code 1 (some .boolean) :: ws) ({ frames := 0, cells := 0, slots := 0, locals := 0 } : Room)) (fun a U => a = #[(.ref a1)] ∧ Z.Warmed39 U.vm ∧ U.heap = h0) (fun _ _ _ _ _ => True) (fun _ U o U' => ∃ v L, o = .returned v ∧ Q_islL Z a1 b1 x cs sf h0 n0 v U'.heap L ∧ FrameEnd U o U' L ({ frames := 0, cells := 0, slots := 0, locals := 0 } : Room).cells ({ frames := 0, cells := 0, slots := 0, locals := 0 } : Room).slots) := by
  refine MetFree.of_bodySF (plainFor_of_name pn_16) hisR ?_
  intro p e s m args below meth c s₁ Bd hml0 hP hK
  obtain ⟨rfl, hZ, hh⟩ := hP
  have hx := Bd.exec
  have hby := Bd.bytes
  have hlk := Bd.notSynchronized
  have hml : c.maxLocals = 1 := hml0
  have hown : s.vm.findClass "java/lang/String" = some m.cls := findClass_of_methodNamed Bd.named
  have hnm := (name_of_methodNamed Bd.named Bd.method).1
  have X0 : Stand p l e ({ frames := 0, cells := 0, slots := 0, locals := 0 } : Room) s m #[(.ref a1)] below meth c s₁ [] 0 0 := Stand.of_body Bd
  have e0 : s₁.heap = h0 := by rw [← hh, Bd.state]; rfl
  have N0 := Fr.nil n0
  show Goes p e below s 0 0 (Q_islL Z a1 b1 x cs sf h0 n0) s₁ (entryFrame m #[(.ref a1)] 1)
  refine goEq (ef__islL m a1) ?_
  obtain ⟨T1017, X1017, e1017, st1017⟩ := getS2 X0 hx hZ hown (host := "") (Or.inl (hw _ (List.mem_of_getElem? (i := 8) rfl))) Via.refl e0 (S1.ext O0.2) (g := (mkF m 0 #[.val (.ref a1)] [])) rfl (hb hby d14_0)
  refine go (T' := T1017) (g' := (mkF m 3 #[.val (.ref a1)] [(.int cs)])) st1017 ?_
  refine go (T' := T1017) (g' := (mkF m 6 #[.val (.ref a1)] [])) (fun t kt => XS.ifNo X1017.here hx rfl (hb hby d14_3) rfl ((if0 _ _).trans (feq hcs).1) kt) ?_
  refine go (T' := T1017) (g' := (mkF m 7 #[.val (.ref a1)] [(.ref a1)])) (fun t kt => XS.aloadN X1017.here hx rfl (hb hby d14_6) rfl rfl kt) ?_
  obtain ⟨T1018, X1018, e1018, st1018⟩ := getF X1017 hx hZ hown (host := "") (Or.inl (hw _ (List.mem_of_getElem? (i := 28) rfl))) Via.refl e1017 Fc (g := (mkF m 7 #[.val (.ref a1)] [(.ref a1)])) rfl rfl (hb hby d14_7)
  refine go (T' := T1018) (g' := (mkF m 10 #[.val (.ref a1)] [(.int (0 : Int32))])) st1018 ?_
  refine go (T' := T1018) (g' := (mkF m 13 #[.val (.ref a1)] [])) (fun t kt => XS.ifNo X1018.here hx rfl (hb hby d14_10) rfl ((if0 _ _).trans (teq rfl).2) kt) ?_
  refine go (T' := T1018) (g' := (mkF m 14 #[.val (.ref a1)] [(.int (1 : Int32))])) (fun t kt => XS.iconst X1018.here hx rfl (hb hby d14_13) kt) ?_
  refine go (T' := T1018) (g' := (mkF m 18 #[.val (.ref a1)] [(.int (1 : Int32))])) (fun t kt => XS.goto X1018.here hx rfl (pc0 := 14) (pc' := 18) rfl (hb hby d14_14) (by decide) (by decide) kt) ?_
  refine goRetN X1018 hx hlk (t := .boolean) Bd.returns (by simp) (hb hby d14_18) ?_ (by decide) (by decide)
  rw [e1018]
  exact ⟨rfl, N0, rfl⟩
theorem d11_0 : decode jdk_42_method_55_code 0 = .ok (.aload_n 0, 1) := by decide +kernel
theorem d11_1 : decode jdk_42_method_55_code 1 = .ok (.getfield 9, 3) := by decide +kernel
theorem d11_4 : decode jdk_42_method_55_code 4 = .ok (.arraylength, 1) := by decide +kernel
theorem d11_5 : decode jdk_42_method_55_code 5 = .ok (.ifCond .ne 7, 3) := by decide +kernel
theorem d11_8 : decode jdk_42_method_55_code 8 = .ok (.iconst 1, 1) := by decide +kernel
theorem d11_9 : decode jdk_42_method_55_code 9 = .ok (.goto 4, 3) := by decide +kernel
theorem d11_12 : decode jdk_42_method_55_code 12 = .ok (.iconst 0, 1) := by decide +kernel
theorem d11_13 : decode jdk_42_method_55_code 13 = .ok (.ireturn, 1) := by decide +kernel
theorem ef__empL (m : MethodId) (a1 : Addr) : entryFrame m #[(.ref a1)] 1 = mkF m 0 #[.val (.ref a1)] [] := by first | (simp [entryFrame, mkF, argsToLocals, Value.category]; done) | rfl
def Q_empL (Z : State) (a1 : Addr) (b1 : Addr) (x : Int32) (cs : Int32) (sf : Value) (h0 : Heap) (n0 : Nat) (v : Option Value) (h : Heap) (L : List Loc) : Prop := v = some (.int 0) ∧ Fr n0 L ∧ h = h0
set_option maxRecDepth 65536 in
set_option maxHeartbeats 40000000 in
theorem rm_empL (l : Launch) (Z : State) (a0 : Array Value) (hw : ∀ d ∈ tables_1, d.before a0 Z = true) (ws : List Jvm.Cond) (a1 : Addr) (b1 : Addr) (x : Int32) (cs : Int32) (sf : Value) (h0 : Heap) (n0 : Nat) (Z0 : n0 ≤ h0.size) (O0 : Old Z n0 h0) (S1 : Sta Z Z.heap "java/lang/String" "COMPACT_STRINGS" "Z" (.int cs)) (hcs : ¬ cs = 0) (S2 : Sta Z Z.heap "jdk/internal/util/Preconditions" "SIOOBE_FORMATTER" "Ljava/util/function/BiFunction;" sf) (hsf : sf = .null ∨ ∃ fa, sf = .ref fa) (S3 : Sta Z Z.heap "java/lang/StringUTF16" "$assertionsDisabled" "Z" (.int (1 : Int32))) (S4 : Sta Z Z.heap "java/lang/StringUTF16" "HI_BYTE_SHIFT" "I" (.int (0 : Int32))) (S5 : Sta Z Z.heap "java/lang/StringUTF16" "LO_BYTE_SHIFT" "I" (.int (8 : Int32))) (E1 : Exa Z h0 a1 "java/lang/String") (Fv : Fld Z h0 a1 "java/lang/String" "value" "[B" (.ref b1)) (Fc : Fld Z h0 a1 "java/lang/String" "coder" "B" (.int (0 : Int32))) (V1 : Aw Z h0 b1 .byte (1 : Int32) (fun _ => .int x)) :
    MetFree l (⟨"java/lang/String", "isEmpty", "()Z"⟩ : MethodName) (head1 (Jvm.Cond.code (⟨"java/lang/String", "isEmpty", "()Z"⟩ : MethodName) jdk_42_method_55_code 1 (some .boolean) :: ws) ({ frames := 0, cells := 0, slots := 0, locals := 0 } : Room)) (fun a U => a = #[(.ref a1)] ∧ Z.Warmed39 U.vm ∧ U.heap = h0) (fun _ _ _ _ _ => True) (fun _ U o U' => ∃ v L, o = .returned v ∧ Q_empL Z a1 b1 x cs sf h0 n0 v U'.heap L ∧ FrameEnd U o U' L ({ frames := 0, cells := 0, slots := 0, locals := 0 } : Room).cells ({ frames := 0, cells := 0, slots := 0, locals := 0 } : Room).slots) := by
  refine MetFree.of_bodySF (plainFor_of_name pn_16) hisR ?_
  intro p e s m args below meth c s₁ Bd hml0 hP hK
  obtain ⟨rfl, hZ, hh⟩ := hP
  have hx := Bd.exec
  have hby := Bd.bytes
  have hlk := Bd.notSynchronized
  have hml : c.maxLocals = 1 := hml0
  have hown : s.vm.findClass "java/lang/String" = some m.cls := findClass_of_methodNamed Bd.named
  have hnm := (name_of_methodNamed Bd.named Bd.method).1
  have X0 : Stand p l e ({ frames := 0, cells := 0, slots := 0, locals := 0 } : Room) s m #[(.ref a1)] below meth c s₁ [] 0 0 := Stand.of_body Bd
  have e0 : s₁.heap = h0 := by rw [← hh, Bd.state]; rfl
  have N0 := Fr.nil n0
  show Goes p e below s 0 0 (Q_empL Z a1 b1 x cs sf h0 n0) s₁ (entryFrame m #[(.ref a1)] 1)
  refine goEq (ef__empL m a1) ?_
  refine go (T' := s₁) (g' := (mkF m 1 #[.val (.ref a1)] [(.ref a1)])) (fun t kt => XS.aloadN X0.here hx rfl (hb hby d11_0) rfl rfl kt) ?_
  obtain ⟨T1019, X1019, e1019, st1019⟩ := getF X0 hx hZ hown (host := "") (Or.inl (hw _ (List.mem_of_getElem? (i := 26) rfl))) Via.refl e0 Fv (g := (mkF m 1 #[.val (.ref a1)] [(.ref a1)])) rfl rfl (hb hby d11_1)
  refine go (T' := T1019) (g' := (mkF m 4 #[.val (.ref a1)] [(.ref b1)])) st1019 ?_
  refine go (T' := T1019) (g' := (mkF m 5 #[.val (.ref a1)] [(.int (1 : Int32))])) (fun t kt => own_len X1019 hx hZ e1019 V1 (g := (mkF m 4 #[.val (.ref a1)] [(.ref b1)])) rfl rfl (hb hby d11_4) _ kt) ?_
  refine go (T' := T1019) (g' := (mkF m 12 #[.val (.ref a1)] [])) (fun t kt => XS.ifYes X1019.here hx rfl (pc0 := 5) (pc' := 12) rfl (hb hby d11_5) rfl ((if0 _ _).trans (feq (by decide)).2) (by decide) (by decide) kt) ?_
  refine go (T' := T1019) (g' := (mkF m 13 #[.val (.ref a1)] [(.int (0 : Int32))])) (fun t kt => XS.iconst X1019.here hx rfl (hb hby d11_12) kt) ?_
  refine goRetN X1019 hx hlk (t := .boolean) Bd.returns (by simp) (hb hby d11_13) ?_ (by decide) (by decide)
  rw [e1019]
  exact ⟨rfl, N0, rfl⟩
theorem d13_0 : decode jdk_42_method_56_code 0 = .ok (.aload_n 0, 1) := by decide +kernel
theorem d13_1 : decode jdk_42_method_56_code 1 = .ok (.invokevirtual 492, 3) := by decide +kernel
theorem d13_4 : decode jdk_42_method_56_code 4 = .ok (.ifCond .eq 12, 3) := by decide +kernel
theorem d13_7 : decode jdk_42_method_56_code 7 = .ok (.aload_n 0, 1) := by decide +kernel
theorem d13_8 : decode jdk_42_method_56_code 8 = .ok (.getfield 9, 3) := by decide +kernel
theorem d13_11 : decode jdk_42_method_56_code 11 = .ok (.iload_n 1, 1) := by decide +kernel
theorem d13_12 : decode jdk_42_method_56_code 12 = .ok (.invokestatic 495, 3) := by decide +kernel
theorem d13_15 : decode jdk_42_method_56_code 15 = .ok (.ireturn, 1) := by decide +kernel
theorem d13_16 : decode jdk_42_method_56_code 16 = .ok (.aload_n 0, 1) := by decide +kernel
theorem d13_17 : decode jdk_42_method_56_code 17 = .ok (.getfield 9, 3) := by decide +kernel
theorem d13_20 : decode jdk_42_method_56_code 20 = .ok (.iload_n 1, 1) := by decide +kernel
theorem d13_21 : decode jdk_42_method_56_code 21 = .ok (.invokestatic 498, 3) := by decide +kernel
theorem d13_24 : decode jdk_42_method_56_code 24 = .ok (.ireturn, 1) := by decide +kernel
theorem pd_6 : parseMethodDescriptor "()Z" = some ⟨[], some .boolean⟩ := by decide +kernel
theorem ef__chaL (m : MethodId) (a1 : Addr) (p1 : Int32) : entryFrame m #[(.ref a1), (.int p1)] 2 = mkF m 0 #[.val (.ref a1), .val (.int p1)] [] := by first | (simp [entryFrame, mkF, argsToLocals, Value.category]; done) | rfl
def Q_chaL (Z : State) (a1 : Addr) (p1 : Int32) (b1 : Addr) (x : Int32) (cs : Int32) (sf : Value) (h0 : Heap) (n0 : Nat) (v : Option Value) (h : Heap) (L : List Loc) : Prop := v = some (.int (nar .char (own_ch x))) ∧ Fr n0 L ∧ h = h0
set_option maxRecDepth 65536 in
set_option maxHeartbeats 40000000 in
theorem rm_chaL (l : Launch) (Z : State) (a0 : Array Value) (hw : ∀ d ∈ tables_1, d.before a0 Z = true) (ws : List Jvm.Cond) (a1 : Addr) (p1 : Int32) (b1 : Addr) (x : Int32) (cs : Int32) (sf : Value) (h0 : Heap) (n0 : Nat) (Z0 : n0 ≤ h0.size) (hp : p1 = 0) (O0 : Old Z n0 h0) (S1 : Sta Z Z.heap "java/lang/String" "COMPACT_STRINGS" "Z" (.int cs)) (hcs : ¬ cs = 0) (S2 : Sta Z Z.heap "jdk/internal/util/Preconditions" "SIOOBE_FORMATTER" "Ljava/util/function/BiFunction;" sf) (hsf : sf = .null ∨ ∃ fa, sf = .ref fa) (S3 : Sta Z Z.heap "java/lang/StringUTF16" "$assertionsDisabled" "Z" (.int (1 : Int32))) (S4 : Sta Z Z.heap "java/lang/StringUTF16" "HI_BYTE_SHIFT" "I" (.int (0 : Int32))) (S5 : Sta Z Z.heap "java/lang/StringUTF16" "LO_BYTE_SHIFT" "I" (.int (8 : Int32))) (E1 : Exa Z h0 a1 "java/lang/String") (Fv : Fld Z h0 a1 "java/lang/String" "value" "[B" (.ref b1)) (Fc : Fld Z h0 a1 "java/lang/String" "coder" "B" (.int (0 : Int32))) (V1 : Aw Z h0 b1 .byte (1 : Int32) (fun _ => .int x)) :
    MetFree l (⟨"java/lang/String", "charAt", "(I)C"⟩ : MethodName) (head1 (Jvm.Cond.code (⟨"java/lang/String", "charAt", "(I)C"⟩ : MethodName) jdk_42_method_56_code 2 (some .char) :: ws) ({ frames := 3, cells := 0, slots := 0, locals := 40 } : Room)) (fun a U => a = #[(.ref a1), (.int p1)] ∧ Z.Warmed39 U.vm ∧ U.heap = h0) (fun _ _ _ _ _ => True) (fun _ U o U' => ∃ v L, o = .returned v ∧ Q_chaL Z a1 p1 b1 x cs sf h0 n0 v U'.heap L ∧ FrameEnd U o U' L ({ frames := 3, cells := 0, slots := 0, locals := 40 } : Room).cells ({ frames := 3, cells := 0, slots := 0, locals := 40 } : Room).slots) := by
  refine MetFree.of_bodySF (plainFor_of_name pn_16) hisR ?_
  intro p e s m args below meth c s₁ Bd hml0 hP hK
  obtain ⟨rfl, hZ, hh⟩ := hP
  have hx := Bd.exec
  have hby := Bd.bytes
  have hlk := Bd.notSynchronized
  have hml : c.maxLocals = 2 := hml0
  have hown : s.vm.findClass "java/lang/String" = some m.cls := findClass_of_methodNamed Bd.named
  have hnm := (name_of_methodNamed Bd.named Bd.method).1
  have X0 : Stand p l e ({ frames := 3, cells := 0, slots := 0, locals := 40 } : Room) s m #[(.ref a1), (.int p1)] below meth c s₁ [] 0 0 := Stand.of_body Bd
  have e0 : s₁.heap = h0 := by rw [← hh, Bd.state]; rfl
  have N0 := Fr.nil n0
  show Goes p e below s 0 0 (Q_chaL Z a1 p1 b1 x cs sf h0 n0) s₁ (entryFrame m #[(.ref a1), (.int p1)] 2)
  refine goEq (ef__chaL m a1 p1) ?_
  refine goEq (g' := (mkF m 0 #[.val (.ref a1), .val (.int (0 : Int32))] [])) (by rw [hp]) ?_
  refine go (T' := s₁) (g' := (mkF m 1 #[.val (.ref a1), .val (.int (0 : Int32))] [(.ref a1)])) (fun t kt => XS.aloadN X0.here hx rfl (hb hby d13_0) rfl rfl kt) ?_
  obtain ⟨cq1020, kq1020, q1020a, q1020b, q1020c⟩ := isOf hZ e0 E1
  obtain ⟨_, _, ⟨T1020, L1020, k1020, n1020⟩, -, X1020, ⟨Lc1020, hQ1020, l1020, y1020, z1020⟩, st1020⟩ := X0.virtualBack hx (y := (⟨"java/lang/String", "isLatin1", "()Z"⟩ : MethodName)) (z := (⟨"java/lang/String", "isLatin1", "()Z"⟩ : MethodName)) hown (mvT hZ (hw _ (List.mem_of_getElem? (i := 59) rfl))) (mvT hZ (hw _ (List.mem_of_getElem? (i := 60) rfl))) (notFace_of_selects (args := #[]) (mvT hZ (hw _ (List.mem_of_getElem? (i := 62) rfl)))) (mvT hZ (hw _ (List.mem_of_getElem? (i := 62) rfl))) (mvT hZ (hw _ (List.mem_of_getElem? (i := 61) rfl))) (by decide) (backOf (W := 0) (rm_islL l Z a0 hw [] a1 b1 x cs sf h0 n0 Z0 O0 S1 hcs S2 hsf S3 S4 S5 E1 Fv Fc V1) hZ (hw _ (List.mem_of_getElem? (i := 63) rfl)) (hw _ (List.mem_of_getElem? (i := 6) rfl)) (by decide) (by decide)) q1020a q1020c (g := (mkF m 1 #[.val (.ref a1), .val (.int (0 : Int32))] [(.ref a1)])) rfl (by rw [hml]; rfl) (Steps.refl _) (argsL := []) (rest := []) (lenOf pd_6 rfl) rfl (by show 2 * 0 + _ ≤ _; exact Nat.le_of_eq rfl) (hb hby d13_1) (fun _ _ => ⟨rfl, e0, (by decide : 0 + 0 ≤ _), (by decide : 0 + 0 ≤ _)⟩)
  dsimp only [Pt.U, Pt.locs, Pt.cells, Pt.slots] at X1020 l1020 y1020 z1020 st1020 hQ1020
  subst l1020 y1020 z1020
  obtain ⟨rfl, N1020q, e1020⟩ := hQ1020
  have N1020 := Fr.app N0 N1020q
  refine goV (T' := T1020) (g' := (mkF m 4 #[.val (.ref a1), .val (.int (0 : Int32))] [(.int (1 : Int32))])) st1020 ?_
  refine go (T' := T1020) (g' := (mkF m 7 #[.val (.ref a1), .val (.int (0 : Int32))] [])) (fun t kt => XS.ifNo X1020.here hx rfl (hb hby d13_4) rfl ((if0 _ _).trans (feq (by decide)).1) kt) ?_
  refine go (T' := T1020) (g' := (mkF m 8 #[.val (.ref a1), .val (.int (0 : Int32))] [(.ref a1)])) (fun t kt => XS.aloadN X1020.here hx rfl (hb hby d13_7) rfl rfl kt) ?_
  obtain ⟨T1021, X1021, e1021, st1021⟩ := getF X1020 hx hZ hown (host := "") (Or.inl (hw _ (List.mem_of_getElem? (i := 26) rfl))) Via.refl e1020 Fv (g := (mkF m 8 #[.val (.ref a1), .val (.int (0 : Int32))] [(.ref a1)])) rfl rfl (hb hby d13_8)
  refine go (T' := T1021) (g' := (mkF m 11 #[.val (.ref a1), .val (.int (0 : Int32))] [(.ref b1)])) st1021 ?_
  refine go (T' := T1021) (g' := (mkF m 12 #[.val (.ref a1), .val (.int (0 : Int32))] [(.int (0 : Int32)), (.ref b1)])) (fun t kt => XS.iloadN X1021.here hx rfl (hb hby d13_11) rfl kt) ?_
  obtain ⟨_, _, ⟨T1022, L1022, k1022, n1022⟩, -, X1022, ⟨Lc1022, hQ1022, l1022, y1022, z1022⟩, st1022⟩ := Jvm.LawKit.callS X1021 hx (y := (⟨"java/lang/StringLatin1", "charAt", "([BI)C"⟩ : MethodName)) hown (mvT hZ (hw _ (List.mem_of_getElem? (i := 64) rfl))) (mvT hZ (hw _ (List.mem_of_getElem? (i := 65) rfl))) (mvT hZ (hw _ (List.mem_of_getElem? (i := 11) rfl))) (mvT hZ (hw _ (List.mem_of_getElem? (i := 66) rfl))) (by decide) (backOf (W := 0) (rm15 l Z a0 hw [] b1 0 x cs sf h0 n0 Z0 O0 S1 hcs S2 hsf S3 S4 S5 rfl V1) hZ (hw _ (List.mem_of_getElem? (i := 66) rfl)) (hw _ (List.mem_of_getElem? (i := 11) rfl)) (by decide) (by decide)) (g := (mkF m 12 #[.val (.ref a1), .val (.int (0 : Int32))] [(.int (0 : Int32)), (.ref b1)])) rfl (by rw [hml]; rfl) (argsL := [(.ref b1), (.int (0 : Int32))]) (rest := []) (lenOf pd_4 rfl) rfl (by show 2 * 0 + _ ≤ _; exact Nat.le_of_eq rfl) (hb hby d13_12) (fun _ _ => ⟨rfl, e1021, (by decide : 0 + 0 ≤ _), (by decide : 0 + 0 ≤ _)⟩)
  dsimp only [Pt.U, Pt.locs, Pt.cells, Pt.slots] at X1022 l1022 y1022 z1022 st1022 hQ1022
  subst l1022 y1022 z1022
  obtain ⟨rfl, N1022q, e1022⟩ := hQ1022
  have N1022 := Fr.app N1020 N1022q
  refine go (T' := T1022) (g' := (mkF m 15 #[.val (.ref a1), .val (.int (0 : Int32))] [(.int (own_ch x))])) st1022 ?_
  refine goRetN X1022 hx hlk (t := .char) Bd.returns (by simp) (hb hby d13_15) ?_ (by decide) (by decide)
  rw [e1022]
  exact ⟨rfl, N1022, rfl⟩
theorem d12_0 : decode prog_116_method_14_code 0 = .ok (.iconst 0, 1) := by decide +kernel
theorem d12_1 : decode prog_116_method_14_code 1 = .ok (.istore_n 3, 1) := by decide +kernel
theorem d12_2 : decode prog_116_method_14_code 2 = .ok (.iload_n 3, 1) := by decide +kernel
theorem d12_3 : decode prog_116_method_14_code 3 = .ok (.aload_n 0, 1) := by decide +kernel
theorem d12_4 : decode prog_116_method_14_code 4 = .ok (.invokevirtual 7, 3) := by decide +kernel
theorem d12_7 : decode prog_116_method_14_code 7 = .ok (.if_icmp .ge 30, 3) := by decide +kernel
theorem d12_10 : decode prog_116_method_14_code 10 = .ok (.aload_n 0, 1) := by decide +kernel
theorem d12_11 : decode prog_116_method_14_code 11 = .ok (.iload_n 3, 1) := by decide +kernel
theorem d12_12 : decode prog_116_method_14_code 12 = .ok (.invokevirtual 19, 3) := by decide +kernel
theorem d12_15 : decode prog_116_method_14_code 15 = .ok (.istore 4, 2) := by decide +kernel
theorem d12_17 : decode prog_116_method_14_code 17 = .ok (.iload 4, 2) := by decide +kernel
theorem d12_19 : decode prog_116_method_14_code 19 = .ok (.iload_n 1, 1) := by decide +kernel
theorem d12_20 : decode prog_116_method_14_code 20 = .ok (.if_icmp .lt 9, 3) := by decide +kernel
theorem d12_23 : decode prog_116_method_14_code 23 = .ok (.iload 4, 2) := by decide +kernel
theorem d12_25 : decode prog_116_method_14_code 25 = .ok (.iload_n 2, 1) := by decide +kernel
theorem d12_26 : decode prog_116_method_14_code 26 = .ok (.if_icmp .le 5, 3) := by decide +kernel
theorem d12_29 : decode prog_116_method_14_code 29 = .ok (.iconst 0, 1) := by decide +kernel
theorem d12_30 : decode prog_116_method_14_code 30 = .ok (.ireturn, 1) := by decide +kernel
theorem d12_31 : decode prog_116_method_14_code 31 = .ok (.iinc 3 1, 3) := by decide +kernel
theorem d12_34 : decode prog_116_method_14_code 34 = .ok (.goto (-32), 3) := by decide +kernel
theorem d12_37 : decode prog_116_method_14_code 37 = .ok (.iconst 1, 1) := by decide +kernel
theorem d12_38 : decode prog_116_method_14_code 38 = .ok (.ireturn, 1) := by decide +kernel
theorem pd_7 : parseMethodDescriptor "()I" = some ⟨[], some .int⟩ := by decide +kernel
theorem pd_8 : parseMethodDescriptor "(I)C" = some ⟨[.int], some .char⟩ := by decide +kernel
theorem ef__allL (m : MethodId) (a1 : Addr) (p1 : Int32) (p2 : Int32) : entryFrame m #[(.ref a1), (.int p1), (.int p2)] 5 = mkF m 0 #[.val (.ref a1), .val (.int p1), .val (.int p2), .unset, .unset] [] := by first | (simp [entryFrame, mkF, argsToLocals, Value.category]; done) | rfl
def Q_allL (Z : State) (a1 : Addr) (p1 : Int32) (p2 : Int32) (b1 : Addr) (x : Int32) (cs : Int32) (sf : Value) (h0 : Heap) (n0 : Nat) (v : Option Value) (h : Heap) (L : List Loc) : Prop := v = some (.int (own_ab (nar .char (own_ch x)))) ∧ Fr n0 L ∧ h = h0
set_option maxRecDepth 65536 in
set_option maxHeartbeats 40000000 in
theorem rm_allL (l : Launch) (Z : State) (a0 : Array Value) (hw : ∀ d ∈ tables_1, d.before a0 Z = true) (ws : List Jvm.Cond) (a1 : Addr) (p1 : Int32) (p2 : Int32) (b1 : Addr) (x : Int32) (cs : Int32) (sf : Value) (h0 : Heap) (n0 : Nat) (Z0 : n0 ≤ h0.size) (hp1 : p1 = 33) (hp2 : p2 = 126) (O0 : Old Z n0 h0) (S1 : Sta Z Z.heap "java/lang/String" "COMPACT_STRINGS" "Z" (.int cs)) (hcs : ¬ cs = 0) (S2 : Sta Z Z.heap "jdk/internal/util/Preconditions" "SIOOBE_FORMATTER" "Ljava/util/function/BiFunction;" sf) (hsf : sf = .null ∨ ∃ fa, sf = .ref fa) (S3 : Sta Z Z.heap "java/lang/StringUTF16" "$assertionsDisabled" "Z" (.int (1 : Int32))) (S4 : Sta Z Z.heap "java/lang/StringUTF16" "HI_BYTE_SHIFT" "I" (.int (0 : Int32))) (S5 : Sta Z Z.heap "java/lang/StringUTF16" "LO_BYTE_SHIFT" "I" (.int (8 : Int32))) (E1 : Exa Z h0 a1 "java/lang/String") (Fv : Fld Z h0 a1 "java/lang/String" "value" "[B" (.ref b1)) (Fc : Fld Z h0 a1 "java/lang/String" "coder" "B" (.int (0 : Int32))) (V1 : Aw Z h0 b1 .byte (1 : Int32) (fun _ => .int x)) :
    MetFree l (⟨"com/example/tallyward/tallyward/model/Codes", "allBetween", "(Ljava/lang/String;CC)Z"⟩ : MethodName) (head1 (Jvm.Cond.code (⟨"com/example/tallyward/tallyward/model/Codes", "allBetween", "(Ljava/lang/String;CC)Z"⟩ : MethodName) prog_116_method_14_code 5 (some .boolean) :: ws) ({ frames := 4, cells := 0, slots := 0, locals := 53 } : Room)) (fun a U => a = #[(.ref a1), (.int p1), (.int p2)] ∧ Z.Warmed39 U.vm ∧ U.heap = h0) (fun _ _ _ _ _ => True) (fun _ U o U' => ∃ v L, o = .returned v ∧ Q_allL Z a1 p1 p2 b1 x cs sf h0 n0 v U'.heap L ∧ FrameEnd U o U' L ({ frames := 4, cells := 0, slots := 0, locals := 53 } : Room).cells ({ frames := 4, cells := 0, slots := 0, locals := 53 } : Room).slots) := by
  refine MetFree.of_bodySF (plainFor_of_name pn_1) hisR ?_
  intro p e s m args below meth c s₁ Bd hml0 hP hK
  obtain ⟨rfl, hZ, hh⟩ := hP
  have hx := Bd.exec
  have hby := Bd.bytes
  have hlk := Bd.notSynchronized
  have hml : c.maxLocals = 5 := hml0
  have hown : s.vm.findClass "com/example/tallyward/tallyward/model/Codes" = some m.cls := findClass_of_methodNamed Bd.named
  have hnm := (name_of_methodNamed Bd.named Bd.method).1
  have X0 : Stand p l e ({ frames := 4, cells := 0, slots := 0, locals := 53 } : Room) s m #[(.ref a1), (.int p1), (.int p2)] below meth c s₁ [] 0 0 := Stand.of_body Bd
  have e0 : s₁.heap = h0 := by rw [← hh, Bd.state]; rfl
  have N0 := Fr.nil n0
  show Goes p e below s 0 0 (Q_allL Z a1 p1 p2 b1 x cs sf h0 n0) s₁ (entryFrame m #[(.ref a1), (.int p1), (.int p2)] 5)
  refine goEq (ef__allL m a1 p1 p2) ?_
  refine goEq (g' := (mkF m 0 #[.val (.ref a1), .val (.int (33 : Int32)), .val (.int p2), .unset, .unset] [])) (by rw [hp1]) ?_
  refine goEq (g' := (mkF m 0 #[.val (.ref a1), .val (.int (33 : Int32)), .val (.int (126 : Int32)), .unset, .unset] [])) (by rw [hp2]) ?_
  refine go (T' := s₁) (g' := (mkF m 1 #[.val (.ref a1), .val (.int (33 : Int32)), .val (.int (126 : Int32)), .unset, .unset] [(.int (0 : Int32))])) (fun t kt => XS.iconst X0.here hx rfl (hb hby d12_0) kt) ?_
  refine go (T' := s₁) (g' := (mkF m 2 #[.val (.ref a1), .val (.int (33 : Int32)), .val (.int (126 : Int32)), .val (.int (0 : Int32)), .unset] [])) (fun t kt => XS.istoreN X0.here hx rfl (hb hby d12_1) rfl (l' := #[.val (.ref a1), .val (.int (33 : Int32)), .val (.int (126 : Int32)), .val (.int (0 : Int32)), .unset]) rfl kt) ?_
  refine go (T' := s₁) (g' := (mkF m 3 #[.val (.ref a1), .val (.int (33 : Int32)), .val (.int (126 : Int32)), .val (.int (0 : Int32)), .unset] [(.int (0 : Int32))])) (fun t kt => XS.iloadN X0.here hx rfl (hb hby d12_2) rfl kt) ?_
  refine go (T' := s₁) (g' := (mkF m 4 #[.val (.ref a1), .val (.int (33 : Int32)), .val (.int (126 : Int32)), .val (.int (0 : Int32)), .unset] [(.ref a1), (.int (0 : Int32))])) (fun t kt => XS.aloadN X0.here hx rfl (hb hby d12_3) rfl rfl kt) ?_
  obtain ⟨cq1023, kq1023, q1023a, q1023b, q1023c⟩ := isOf hZ e0 E1
  obtain ⟨_, _, ⟨T1023, L1023, k1023, n1023⟩, -, X1023, ⟨Lc1023, hQ1023, l1023, y1023, z1023⟩, st1023⟩ := X0.virtualBack hx (y := (⟨"java/lang/String", "length", "()I"⟩ : MethodName)) (z := (⟨"java/lang/String", "length", "()I"⟩ : MethodName)) hown (mvT hZ (hw _ (List.mem_of_getElem? (i := 33) rfl))) (mvT hZ (hw _ (List.mem_of_getElem? (i := 34) rfl))) (notFace_of_selects (args := #[]) (mvT hZ (hw _ (List.mem_of_getElem? (i := 36) rfl)))) (mvT hZ (hw _ (List.mem_of_getElem? (i := 36) rfl))) (mvT hZ (hw _ (List.mem_of_getElem? (i := 35) rfl))) (by decide) (backOf (W := 1) (rm_lenL l Z a0 hw [] a1 b1 x cs sf h0 n0 Z0 O0 S1 hcs S2 hsf S3 S4 S5 E1 Fv Fc V1) hZ (hw _ (List.mem_of_getElem? (i := 37) rfl)) (hw _ (List.mem_of_getElem? (i := 6) rfl)) (by decide) (by decide)) q1023a q1023c (g := (mkF m 4 #[.val (.ref a1), .val (.int (33 : Int32)), .val (.int (126 : Int32)), .val (.int (0 : Int32)), .unset] [(.ref a1), (.int (0 : Int32))])) rfl (by rw [hml]; rfl) (Steps.refl _) (argsL := []) (rest := [(.int (0 : Int32))]) (lenOf pd_7 rfl) rfl (by show 2 * 0 + _ ≤ _; exact Nat.le_of_eq rfl) (hb hby d12_4) (fun _ _ => ⟨rfl, e0, (by decide : 0 + 0 ≤ _), (by decide : 0 + 0 ≤ _)⟩)
  dsimp only [Pt.U, Pt.locs, Pt.cells, Pt.slots] at X1023 l1023 y1023 z1023 st1023 hQ1023
  subst l1023 y1023 z1023
  obtain ⟨rfl, N1023q, e1023⟩ := hQ1023
  have N1023 := Fr.app N0 N1023q
  refine goV (T' := T1023) (g' := (mkF m 7 #[.val (.ref a1), .val (.int (33 : Int32)), .val (.int (126 : Int32)), .val (.int (0 : Int32)), .unset] [(.int (1 : Int32)), (.int (0 : Int32))])) st1023 ?_
  refine go (T' := T1023) (g' := (mkF m 10 #[.val (.ref a1), .val (.int (33 : Int32)), .val (.int (126 : Int32)), .val (.int (0 : Int32)), .unset] [])) (fun t kt => XS.icmpNo X1023.here hx rfl (hb hby d12_7) rfl (tlt (by decide)).2.1 kt) ?_
  refine go (T' := T1023) (g' := (mkF m 11 #[.val (.ref a1), .val (.int (33 : Int32)), .val (.int (126 : Int32)), .val (.int (0 : Int32)), .unset] [(.ref a1)])) (fun t kt => XS.aloadN X1023.here hx rfl (hb hby d12_10) rfl rfl kt) ?_
  refine go (T' := T1023) (g' := (mkF m 12 #[.val (.ref a1), .val (.int (33 : Int32)), .val (.int (126 : Int32)), .val (.int (0 : Int32)), .unset] [(.int (0 : Int32)), (.ref a1)])) (fun t kt => XS.iloadN X1023.here hx rfl (hb hby d12_11) rfl kt) ?_
  obtain ⟨cq1024, kq1024, q1024a, q1024b, q1024c⟩ := isOf hZ e1023 E1
  obtain ⟨_, _, ⟨T1024, L1024, k1024, n1024⟩, -, X1024, ⟨Lc1024, hQ1024, l1024, y1024, z1024⟩, st1024⟩ := X1023.virtualBack hx (y := (⟨"java/lang/String", "charAt", "(I)C"⟩ : MethodName)) (z := (⟨"java/lang/String", "charAt", "(I)C"⟩ : MethodName)) hown (mvT hZ (hw _ (List.mem_of_getElem? (i := 54) rfl))) (mvT hZ (hw _ (List.mem_of_getElem? (i := 55) rfl))) (notFace_of_selects (args := #[]) (mvT hZ (hw _ (List.mem_of_getElem? (i := 57) rfl)))) (mvT hZ (hw _ (List.mem_of_getElem? (i := 57) rfl))) (mvT hZ (hw _ (List.mem_of_getElem? (i := 56) rfl))) (by decide) (backOf (W := 0) (rm_chaL l Z a0 hw [] a1 0 b1 x cs sf h0 n0 Z0 rfl O0 S1 hcs S2 hsf S3 S4 S5 E1 Fv Fc V1) hZ (hw _ (List.mem_of_getElem? (i := 58) rfl)) (hw _ (List.mem_of_getElem? (i := 6) rfl)) (by decide) (by decide)) q1024a q1024c (g := (mkF m 12 #[.val (.ref a1), .val (.int (33 : Int32)), .val (.int (126 : Int32)), .val (.int (0 : Int32)), .unset] [(.int (0 : Int32)), (.ref a1)])) rfl (by rw [hml]; rfl) (Steps.refl _) (argsL := [(.int (0 : Int32))]) (rest := []) (lenOf pd_8 rfl) rfl (by show 2 * 0 + _ ≤ _; exact Nat.le_of_eq rfl) (hb hby d12_12) (fun _ _ => ⟨rfl, e1023, (by decide : 0 + 0 ≤ _), (by decide : 0 + 0 ≤ _)⟩)
  dsimp only [Pt.U, Pt.locs, Pt.cells, Pt.slots] at X1024 l1024 y1024 z1024 st1024 hQ1024
  subst l1024 y1024 z1024
  obtain ⟨rfl, N1024q, e1024⟩ := hQ1024
  have N1024 := Fr.app N1023 N1024q
  refine goV (T' := T1024) (g' := (mkF m 15 #[.val (.ref a1), .val (.int (33 : Int32)), .val (.int (126 : Int32)), .val (.int (0 : Int32)), .unset] [(.int (nar .char (own_ch x)))])) st1024 ?_
  refine go (T' := T1024) (g' := (mkF m 17 #[.val (.ref a1), .val (.int (33 : Int32)), .val (.int (126 : Int32)), .val (.int (0 : Int32)), .val (.int (nar .char (own_ch x)))] [])) (fun t kt => XS.istore X1024.here hx rfl (hb hby d12_15) rfl (l' := #[.val (.ref a1), .val (.int (33 : Int32)), .val (.int (126 : Int32)), .val (.int (0 : Int32)), .val (.int (nar .char (own_ch x)))]) rfl kt) ?_
  refine go (T' := T1024) (g' := (mkF m 19 #[.val (.ref a1), .val (.int (33 : Int32)), .val (.int (126 : Int32)), .val (.int (0 : Int32)), .val (.int (nar .char (own_ch x)))] [(.int (nar .char (own_ch x)))])) (fun t kt => XS.iload X1024.here hx rfl (hb hby d12_17) rfl kt) ?_
  refine go (T' := T1024) (g' := (mkF m 20 #[.val (.ref a1), .val (.int (33 : Int32)), .val (.int (126 : Int32)), .val (.int (0 : Int32)), .val (.int (nar .char (own_ch x)))] [(.int (33 : Int32)), (.int (nar .char (own_ch x)))])) (fun t kt => XS.iloadN X1024.here hx rfl (hb hby d12_19) rfl kt) ?_
  by_cases h1 : (nar .char (own_ch x)) < (33 : Int32)
  · refine go (T' := T1024) (g' := (mkF m 29 #[.val (.ref a1), .val (.int (33 : Int32)), .val (.int (126 : Int32)), .val (.int (0 : Int32)), .val (.int (nar .char (own_ch x)))] [])) (fun t kt => XS.icmpYes X1024.here hx rfl (pc0 := 20) (pc' := 29) rfl (hb hby d12_20) rfl (tlt h1).1 (by decide) (by decide) kt) ?_
    refine go (T' := T1024) (g' := (mkF m 30 #[.val (.ref a1), .val (.int (33 : Int32)), .val (.int (126 : Int32)), .val (.int (0 : Int32)), .val (.int (nar .char (own_ch x)))] [(.int (0 : Int32))])) (fun t kt => XS.iconst X1024.here hx rfl (hb hby d12_29) kt) ?_
    refine goRetN X1024 hx hlk (t := .boolean) Bd.returns (by simp) (hb hby d12_30) ?_ (by decide) (by decide)
    rw [e1024]
    exact ⟨by rw [own_ab, if_pos h1]; rfl, N1024, rfl⟩
  · refine go (T' := T1024) (g' := (mkF m 23 #[.val (.ref a1), .val (.int (33 : Int32)), .val (.int (126 : Int32)), .val (.int (0 : Int32)), .val (.int (nar .char (own_ch x)))] [])) (fun t kt => XS.icmpNo X1024.here hx rfl (hb hby d12_20) rfl (flt h1).1 kt) ?_
    refine go (T' := T1024) (g' := (mkF m 25 #[.val (.ref a1), .val (.int (33 : Int32)), .val (.int (126 : Int32)), .val (.int (0 : Int32)), .val (.int (nar .char (own_ch x)))] [(.int (nar .char (own_ch x)))])) (fun t kt => XS.iload X1024.here hx rfl (hb hby d12_23) rfl kt) ?_
    refine go (T' := T1024) (g' := (mkF m 26 #[.val (.ref a1), .val (.int (33 : Int32)), .val (.int (126 : Int32)), .val (.int (0 : Int32)), .val (.int (nar .char (own_ch x)))] [(.int (126 : Int32)), (.int (nar .char (own_ch x)))])) (fun t kt => XS.iloadN X1024.here hx rfl (hb hby d12_25) rfl kt) ?_
    by_cases h2 : (126 : Int32) < (nar .char (own_ch x))
    · refine go (T' := T1024) (g' := (mkF m 29 #[.val (.ref a1), .val (.int (33 : Int32)), .val (.int (126 : Int32)), .val (.int (0 : Int32)), .val (.int (nar .char (own_ch x)))] [])) (fun t kt => XS.icmpNo X1024.here hx rfl (hb hby d12_26) rfl (tlt h2).2.2.2 kt) ?_
      refine go (T' := T1024) (g' := (mkF m 30 #[.val (.ref a1), .val (.int (33 : Int32)), .val (.int (126 : Int32)), .val (.int (0 : Int32)), .val (.int (nar .char (own_ch x)))] [(.int (0 : Int32))])) (fun t kt => XS.iconst X1024.here hx rfl (hb hby d12_29) kt) ?_
      refine goRetN X1024 hx hlk (t := .boolean) Bd.returns (by simp) (hb hby d12_30) ?_ (by decide) (by decide)
      rw [e1024]
      exact ⟨by rw [own_ab, if_neg h1, if_pos h2]; rfl, N1024, rfl⟩
    · refine go (T' := T1024) (g' := (mkF m 31 #[.val (.ref a1), .val (.int (33 : Int32)), .val (.int (126 : Int32)), .val (.int (0 : Int32)), .val (.int (nar .char (own_ch x)))] [])) (fun t kt => XS.icmpYes X1024.here hx rfl (pc0 := 26) (pc' := 31) rfl (hb hby d12_26) rfl (flt h2).2.2.2 (by decide) (by decide) kt) ?_
      refine go (T' := T1024) (g' := (mkF m 34 #[.val (.ref a1), .val (.int (33 : Int32)), .val (.int (126 : Int32)), .val (.int ((0 : Int32) + (1 : Int32))), .val (.int (nar .char (own_ch x)))] [])) (fun t kt => XS.iinc X1024.here hx rfl (hb hby d12_31) rfl (l' := #[.val (.ref a1), .val (.int (33 : Int32)), .val (.int (126 : Int32)), .val (.int ((0 : Int32) + (1 : Int32))), .val (.int (nar .char (own_ch x)))]) rfl kt) ?_
      refine goEq (g' := (mkF m 34 #[.val (.ref a1), .val (.int (33 : Int32)), .val (.int (126 : Int32)), .val (.int (1 : Int32)), .val (.int (nar .char (own_ch x)))] [])) (rfl) ?_
      refine go (T' := T1024) (g' := (mkF m 2 #[.val (.ref a1), .val (.int (33 : Int32)), .val (.int (126 : Int32)), .val (.int (1 : Int32)), .val (.int (nar .char (own_ch x)))] [])) (fun t kt => XS.goto X1024.here hx rfl (pc0 := 34) (pc' := 2) rfl (hb hby d12_34) (by decide) (by decide) kt) ?_
      refine go (T' := T1024) (g' := (mkF m 3 #[.val (.ref a1), .val (.int (33 : Int32)), .val (.int (126 : Int32)), .val (.int (1 : Int32)), .val (.int (nar .char (own_ch x)))] [(.int (1 : Int32))])) (fun t kt => XS.iloadN X1024.here hx rfl (hb hby d12_2) rfl kt) ?_
      refine go (T' := T1024) (g' := (mkF m 4 #[.val (.ref a1), .val (.int (33 : Int32)), .val (.int (126 : Int32)), .val (.int (1 : Int32)), .val (.int (nar .char (own_ch x)))] [(.ref a1), (.int (1 : Int32))])) (fun t kt => XS.aloadN X1024.here hx rfl (hb hby d12_3) rfl rfl kt) ?_
      obtain ⟨cq1025, kq1025, q1025a, q1025b, q1025c⟩ := isOf hZ e1024 E1
      obtain ⟨_, _, ⟨T1025, L1025, k1025, n1025⟩, -, X1025, ⟨Lc1025, hQ1025, l1025, y1025, z1025⟩, st1025⟩ := X1024.virtualBack hx (y := (⟨"java/lang/String", "length", "()I"⟩ : MethodName)) (z := (⟨"java/lang/String", "length", "()I"⟩ : MethodName)) hown (mvT hZ (hw _ (List.mem_of_getElem? (i := 33) rfl))) (mvT hZ (hw _ (List.mem_of_getElem? (i := 34) rfl))) (notFace_of_selects (args := #[]) (mvT hZ (hw _ (List.mem_of_getElem? (i := 36) rfl)))) (mvT hZ (hw _ (List.mem_of_getElem? (i := 36) rfl))) (mvT hZ (hw _ (List.mem_of_getElem? (i := 35) rfl))) (by decide) (backOf (W := 1) (rm_lenL l Z a0 hw [] a1 b1 x cs sf h0 n0 Z0 O0 S1 hcs S2 hsf S3 S4 S5 E1 Fv Fc V1) hZ (hw _ (List.mem_of_getElem? (i := 37) rfl)) (hw _ (List.mem_of_getElem? (i := 6) rfl)) (by decide) (by decide)) q1025a q1025c (g := (mkF m 4 #[.val (.ref a1), .val (.int (33 : Int32)), .val (.int (126 : Int32)), .val (.int (1 : Int32)), .val (.int (nar .char (own_ch x)))] [(.ref a1), (.int (1 : Int32))])) rfl (by rw [hml]; rfl) (Steps.refl _) (argsL := []) (rest := [(.int (1 : Int32))]) (lenOf pd_7 rfl) rfl (by show 2 * 0 + _ ≤ _; exact Nat.le_of_eq rfl) (hb hby d12_4) (fun _ _ => ⟨rfl, e1024, (by decide : 0 + 0 ≤ _), (by decide : 0 + 0 ≤ _)⟩)
      dsimp only [Pt.U, Pt.locs, Pt.cells, Pt.slots] at X1025 l1025 y1025 z1025 st1025 hQ1025
      subst l1025 y1025 z1025
      obtain ⟨rfl, N1025q, e1025⟩ := hQ1025
      have N1025 := Fr.app N1024 N1025q
      refine goV (T' := T1025) (g' := (mkF m 7 #[.val (.ref a1), .val (.int (33 : Int32)), .val (.int (126 : Int32)), .val (.int (1 : Int32)), .val (.int (nar .char (own_ch x)))] [(.int (1 : Int32)), (.int (1 : Int32))])) st1025 ?_
      refine go (T' := T1025) (g' := (mkF m 37 #[.val (.ref a1), .val (.int (33 : Int32)), .val (.int (126 : Int32)), .val (.int (1 : Int32)), .val (.int (nar .char (own_ch x)))] [])) (fun t kt => XS.icmpYes X1025.here hx rfl (pc0 := 7) (pc' := 37) rfl (hb hby d12_7) rfl (flt (by decide)).2.1 (by decide) (by decide) kt) ?_
      refine go (T' := T1025) (g' := (mkF m 38 #[.val (.ref a1), .val (.int (33 : Int32)), .val (.int (126 : Int32)), .val (.int (1 : Int32)), .val (.int (nar .char (own_ch x)))] [(.int (1 : Int32))])) (fun t kt => XS.iconst X1025.here hx rfl (hb hby d12_37) kt) ?_
      refine goRetN X1025 hx hlk (t := .boolean) Bd.returns (by simp) (hb hby d12_38) ?_ (by decide) (by decide)
      rw [e1025]
      exact ⟨by rw [own_ab, if_neg h1, if_neg h2]; rfl, N1025, rfl⟩
theorem d10_0 : decode prog_116_method_11_code 0 = .ok (.aload_n 0, 1) := by decide +kernel
theorem d10_1 : decode prog_116_method_11_code 1 = .ok (.invokevirtual 56, 3) := by decide +kernel
theorem d10_4 : decode prog_116_method_11_code 4 = .ok (.ifCond .ne 18, 3) := by decide +kernel
theorem d10_7 : decode prog_116_method_11_code 7 = .ok (.aload_n 0, 1) := by decide +kernel
theorem d10_8 : decode prog_116_method_11_code 8 = .ok (.bipush 33, 2) := by decide +kernel
theorem d10_10 : decode prog_116_method_11_code 10 = .ok (.bipush 126, 2) := by decide +kernel
theorem d10_12 : decode prog_116_method_11_code 12 = .ok (.invokestatic 27, 3) := by decide +kernel
theorem d10_15 : decode prog_116_method_11_code 15 = .ok (.ifCond .eq 7, 3) := by decide +kernel
theorem d10_18 : decode prog_116_method_11_code 18 = .ok (.iconst 1, 1) := by decide +kernel
theorem d10_19 : decode prog_116_method_11_code 19 = .ok (.goto 4, 3) := by decide +kernel
theorem d10_22 : decode prog_116_method_11_code 22 = .ok (.iconst 0, 1) := by decide +kernel
theorem d10_23 : decode prog_116_method_11_code 23 = .ok (.ireturn, 1) := by decide +kernel
theorem pd_9 : parseMethodDescriptor "(Ljava/lang/String;CC)Z" = some ⟨[(.object "java/lang/String"), .char, .char], some .boolean⟩ := by decide +kernel
theorem ef__tokL (m : MethodId) (a1 : Addr) : entryFrame m #[(.ref a1)] 1 = mkF m 0 #[.val (.ref a1)] [] := by first | (simp [entryFrame, mkF, argsToLocals, Value.category]; done) | rfl
def Q_tokL (Z : State) (a1 : Addr) (b1 : Addr) (x : Int32) (cs : Int32) (sf : Value) (h0 : Heap) (n0 : Nat) (v : Option Value) (h : Heap) (L : List Loc) : Prop := v = some (.int (own_ab (nar .char (own_ch x)))) ∧ Fr n0 L ∧ h = h0
set_option maxRecDepth 65536 in
set_option maxHeartbeats 40000000 in
theorem rm_tokL (l : Launch) (Z : State) (a0 : Array Value) (hw : ∀ d ∈ tables_1, d.before a0 Z = true) (ws : List Jvm.Cond) (a1 : Addr) (b1 : Addr) (x : Int32) (cs : Int32) (sf : Value) (h0 : Heap) (n0 : Nat) (Z0 : n0 ≤ h0.size) (O0 : Old Z n0 h0) (S1 : Sta Z Z.heap "java/lang/String" "COMPACT_STRINGS" "Z" (.int cs)) (hcs : ¬ cs = 0) (S2 : Sta Z Z.heap "jdk/internal/util/Preconditions" "SIOOBE_FORMATTER" "Ljava/util/function/BiFunction;" sf) (hsf : sf = .null ∨ ∃ fa, sf = .ref fa) (S3 : Sta Z Z.heap "java/lang/StringUTF16" "$assertionsDisabled" "Z" (.int (1 : Int32))) (S4 : Sta Z Z.heap "java/lang/StringUTF16" "HI_BYTE_SHIFT" "I" (.int (0 : Int32))) (S5 : Sta Z Z.heap "java/lang/StringUTF16" "LO_BYTE_SHIFT" "I" (.int (8 : Int32))) (E1 : Exa Z h0 a1 "java/lang/String") (Fv : Fld Z h0 a1 "java/lang/String" "value" "[B" (.ref b1)) (Fc : Fld Z h0 a1 "java/lang/String" "coder" "B" (.int (0 : Int32))) (V1 : Aw Z h0 b1 .byte (1 : Int32) (fun _ => .int x)) :
    MetFree l (⟨"com/example/tallyward/tallyward/model/Codes", "isToken", "(Ljava/lang/String;)Z"⟩ : MethodName) (head1 (Jvm.Cond.code (⟨"com/example/tallyward/tallyward/model/Codes", "isToken", "(Ljava/lang/String;)Z"⟩ : MethodName) prog_116_method_11_code 1 (some .boolean) :: ws) ({ frames := 5, cells := 0, slots := 0, locals := 69 } : Room)) (fun a U => a = #[(.ref a1)] ∧ Z.Warmed39 U.vm ∧ U.heap = h0) (fun _ _ _ _ _ => True) (fun _ U o U' => ∃ v L, o = .returned v ∧ Q_tokL Z a1 b1 x cs sf h0 n0 v U'.heap L ∧ FrameEnd U o U' L ({ frames := 5, cells := 0, slots := 0, locals := 69 } : Room).cells ({ frames := 5, cells := 0, slots := 0, locals := 69 } : Room).slots) := by
  refine MetFree.of_bodySF (plainFor_of_name pn_1) hisR ?_
  intro p e s m args below meth c s₁ Bd hml0 hP hK
  obtain ⟨rfl, hZ, hh⟩ := hP
  have hx := Bd.exec
  have hby := Bd.bytes
  have hlk := Bd.notSynchronized
  have hml : c.maxLocals = 1 := hml0
  have hown : s.vm.findClass "com/example/tallyward/tallyward/model/Codes" = some m.cls := findClass_of_methodNamed Bd.named
  have hnm := (name_of_methodNamed Bd.named Bd.method).1
  have X0 : Stand p l e ({ frames := 5, cells := 0, slots := 0, locals := 69 } : Room) s m #[(.ref a1)] below meth c s₁ [] 0 0 := Stand.of_body Bd
  have e0 : s₁.heap = h0 := by rw [← hh, Bd.state]; rfl
  have N0 := Fr.nil n0
  show Goes p e below s 0 0 (Q_tokL Z a1 b1 x cs sf h0 n0) s₁ (entryFrame m #[(.ref a1)] 1)
  refine goEq (ef__tokL m a1) ?_
  refine go (T' := s₁) (g' := (mkF m 1 #[.val (.ref a1)] [(.ref a1)])) (fun t kt => XS.aloadN X0.here hx rfl (hb hby d10_0) rfl rfl kt) ?_
  obtain ⟨cq1026, kq1026, q1026a, q1026b, q1026c⟩ := isOf hZ e0 E1
  obtain ⟨_, _, ⟨T1026, L1026, k1026, n1026⟩, -, X1026, ⟨Lc1026, hQ1026, l1026, y1026, z1026⟩, st1026⟩ := X0.virtualBack hx (y := (⟨"java/lang/String", "isEmpty", "()Z"⟩ : MethodName)) (z := (⟨"java/lang/String", "isEmpty", "()Z"⟩ : MethodName)) hown (mvT hZ (hw _ (List.mem_of_getElem? (i := 46) rfl))) (mvT hZ (hw _ (List.mem_of_getElem? (i := 47) rfl))) (notFace_of_selects (args := #[]) (mvT hZ (hw _ (List.mem_of_getElem? (i := 49) rfl)))) (mvT hZ (hw _ (List.mem_of_getElem? (i := 49) rfl))) (mvT hZ (hw _ (List.mem_of_getElem? (i := 48) rfl))) (by decide) (backOf (W := 0) (rm_empL l Z a0 hw [] a1 b1 x cs sf h0 n0 Z0 O0 S1 hcs S2 hsf S3 S4 S5 E1 Fv Fc V1) hZ (hw _ (List.mem_of_getElem? (i := 50) rfl)) (hw _ (List.mem_of_getElem? (i := 6) rfl)) (by decide) (by decide)) q1026a q1026c (g := (mkF m 1 #[.val (.ref a1)] [(.ref a1)])) rfl (by rw [hml]; rfl) (Steps.refl _) (argsL := []) (rest := []) (lenOf pd_6 rfl) rfl (by show 2 * 0 + _ ≤ _; exact Nat.le_of_eq rfl) (hb hby d10_1) (fun _ _ => ⟨rfl, e0, (by decide : 0 + 0 ≤ _), (by decide : 0 + 0 ≤ _)⟩)
  dsimp only [Pt.U, Pt.locs, Pt.cells, Pt.slots] at X1026 l1026 y1026 z1026 st1026 hQ1026
  subst l1026 y1026 z1026
  obtain ⟨rfl, N1026q, e1026⟩ := hQ1026
  have N1026 := Fr.app N0 N1026q
  refine goV (T' := T1026) (g' := (mkF m 4 #[.val (.ref a1)] [(.int (0 : Int32))])) st1026 ?_
  refine go (T' := T1026) (g' := (mkF m 7 #[.val (.ref a1)] [])) (fun t kt => XS.ifNo X1026.here hx rfl (hb hby d10_4) rfl ((if0 _ _).trans (teq rfl).2) kt) ?_
  refine go (T' := T1026) (g' := (mkF m 8 #[.val (.ref a1)] [(.ref a1)])) (fun t kt => XS.aloadN X1026.here hx rfl (hb hby d10_7) rfl rfl kt) ?_
  refine go (T' := T1026) (g' := (mkF m 10 #[.val (.ref a1)] [(.int (33 : Int32)), (.ref a1)])) (fun t kt => XS.bipush X1026.here hx rfl (hb hby d10_8) kt) ?_
  refine go (T' := T1026) (g' := (mkF m 12 #[.val (.ref a1)] [(.int (126 : Int32)), (.int (33 : Int32)), (.ref a1)])) (fun t kt => XS.bipush X1026.here hx rfl (hb hby d10_10) kt) ?_
  obtain ⟨_, _, ⟨T1027, L1027, k1027, n1027⟩, -, X1027, ⟨Lc1027, hQ1027, l1027, y1027, z1027⟩, st1027⟩ := Jvm.LawKit.callS X1026 hx (y := (⟨"com/example/tallyward/tallyward/model/Codes", "allBetween", "(Ljava/lang/String;CC)Z"⟩ : MethodName)) hown (mvT hZ (hw _ (List.mem_of_getElem? (i := 51) rfl))) (mvT hZ (hw _ (List.mem_of_getElem? (i := 52) rfl))) (mvT hZ (hw _ (List.mem_of_getElem? (i := 2) rfl))) (mvT hZ (hw _ (List.mem_of_getElem? (i := 53) rfl))) (by decide) (backOf (W := 0) (rm_allL l Z a0 hw [] a1 33 126 b1 x cs sf h0 n0 Z0 rfl rfl O0 S1 hcs S2 hsf S3 S4 S5 E1 Fv Fc V1) hZ (hw _ (List.mem_of_getElem? (i := 53) rfl)) (hw _ (List.mem_of_getElem? (i := 2) rfl)) (by decide) (by decide)) (g := (mkF m 12 #[.val (.ref a1)] [(.int (126 : Int32)), (.int (33 : Int32)), (.ref a1)])) rfl (by rw [hml]; rfl) (argsL := [(.ref a1), (.int (33 : Int32)), (.int (126 : Int32))]) (rest := []) (lenOf pd_9 rfl) rfl (by show 2 * 0 + _ ≤ _; exact Nat.le_of_eq rfl) (hb hby d10_12) (fun _ _ => ⟨rfl, e1026, (by decide : 0 + 0 ≤ _), (by decide : 0 + 0 ≤ _)⟩)
  dsimp only [Pt.U, Pt.locs, Pt.cells, Pt.slots] at X1027 l1027 y1027 z1027 st1027 hQ1027
  subst l1027 y1027 z1027
  obtain ⟨rfl, N1027q, e1027⟩ := hQ1027
  have N1027 := Fr.app N1026 N1027q
  refine go (T' := T1027) (g' := (mkF m 15 #[.val (.ref a1)] [(.int (own_ab (nar .char (own_ch x))))])) st1027 ?_
  by_cases hc : (own_ab (nar .char (own_ch x))) = (0 : Int32)
  · refine go (T' := T1027) (g' := (mkF m 22 #[.val (.ref a1)] [])) (fun t kt => XS.ifYes X1027.here hx rfl (pc0 := 15) (pc' := 22) rfl (hb hby d10_15) rfl ((if0 _ _).trans (teq hc).1) (by decide) (by decide) kt) ?_
    refine go (T' := T1027) (g' := (mkF m 23 #[.val (.ref a1)] [(.int (0 : Int32))])) (fun t kt => XS.iconst X1027.here hx rfl (hb hby d10_22) kt) ?_
    refine goRetN X1027 hx hlk (t := .boolean) Bd.returns (by simp) (hb hby d10_23) ?_ (by decide) (by decide)
    rw [e1027]
    exact ⟨by rw [hc]; rfl, N1027, rfl⟩
  · refine go (T' := T1027) (g' := (mkF m 18 #[.val (.ref a1)] [])) (fun t kt => XS.ifNo X1027.here hx rfl (hb hby d10_15) rfl ((if0 _ _).trans (feq hc).1) kt) ?_
    refine go (T' := T1027) (g' := (mkF m 19 #[.val (.ref a1)] [(.int (1 : Int32))])) (fun t kt => XS.iconst X1027.here hx rfl (hb hby d10_18) kt) ?_
    refine go (T' := T1027) (g' := (mkF m 23 #[.val (.ref a1)] [(.int (1 : Int32))])) (fun t kt => XS.goto X1027.here hx rfl (pc0 := 19) (pc' := 23) rfl (hb hby d10_19) (by decide) (by decide) kt) ?_
    refine goRetN X1027 hx hlk (t := .boolean) Bd.returns (by simp) (hb hby d10_23) ?_ (by decide) (by decide)
    rw [e1027]
    exact ⟨by rw [show own_ab (nar .char (own_ch x)) = 1 from by revert hc; unfold own_ab; repeat' split <;> simp]; rfl, N1027, rfl⟩
theorem ef__codU (m : MethodId) (a1 : Addr) : entryFrame m #[(.ref a1)] 1 = mkF m 0 #[.val (.ref a1)] [] := by first | (simp [entryFrame, mkF, argsToLocals, Value.category]; done) | rfl
def Q_codU (Z : State) (a1 : Addr) (b1 : Addr) (x : Int32) (y : Int32) (cs : Int32) (sf : Value) (h0 : Heap) (n0 : Nat) (v : Option Value) (h : Heap) (L : List Loc) : Prop := v = some (.int (1 : Int32)) ∧ Fr n0 L ∧ h = h0
set_option maxRecDepth 65536 in
set_option maxHeartbeats 40000000 in
theorem rm_codU (l : Launch) (Z : State) (a0 : Array Value) (hw : ∀ d ∈ tables_1, d.before a0 Z = true) (ws : List Jvm.Cond) (a1 : Addr) (b1 : Addr) (x : Int32) (y : Int32) (cs : Int32) (sf : Value) (h0 : Heap) (n0 : Nat) (Z0 : n0 ≤ h0.size) (O0 : Old Z n0 h0) (S1 : Sta Z Z.heap "java/lang/String" "COMPACT_STRINGS" "Z" (.int cs)) (hcs : ¬ cs = 0) (S2 : Sta Z Z.heap "jdk/internal/util/Preconditions" "SIOOBE_FORMATTER" "Ljava/util/function/BiFunction;" sf) (hsf : sf = .null ∨ ∃ fa, sf = .ref fa) (S3 : Sta Z Z.heap "java/lang/StringUTF16" "$assertionsDisabled" "Z" (.int (1 : Int32))) (S4 : Sta Z Z.heap "java/lang/StringUTF16" "HI_BYTE_SHIFT" "I" (.int (0 : Int32))) (S5 : Sta Z Z.heap "java/lang/StringUTF16" "LO_BYTE_SHIFT" "I" (.int (8 : Int32))) (E1 : Exa Z h0 a1 "java/lang/String") (Fv : Fld Z h0 a1 "java/lang/String" "value" "[B" (.ref b1)) (Fc : Fld Z h0 a1 "java/lang/String" "coder" "B" (.int (1 : Int32))) (V1 : Aw Z h0 b1 .byte (2 : Int32) (fun i => .int (if i = 0 then x else y))) :
    MetFree l (⟨"java/lang/String", "coder", "()B"⟩ : MethodName) (head1 (Jvm.Cond.code (⟨"java/lang/String", "coder", "()B"⟩ : MethodName) jdk_42_method_152_code 1 (some .byte) :: ws) ({ frames := 0, cells := 0, slots := 0, locals := 0 } : Room)) (fun a U => a = #[(.ref a1)] ∧ Z.Warmed39 U.vm ∧ U.heap = h0) (fun _ _ _ _ _ => True) (fun _ U o U' => ∃ v L, o = .returned v ∧ Q_codU Z a1 b1 x y cs sf h0 n0 v U'.heap L ∧ FrameEnd U o U' L ({ frames := 0, cells := 0, slots := 0, locals := 0 } : Room).cells ({ frames := 0, cells := 0, slots := 0, locals := 0 } : Room).slots) := by
  refine MetFree.of_bodySF (plainFor_of_name pn_16) hisR ?_
  intro p e s m args below meth c s₁ Bd hml0 hP hK
  obtain ⟨rfl, hZ, hh⟩ := hP
  have hx := Bd.exec
  have hby := Bd.bytes
  have hlk := Bd.notSynchronized
  have hml : c.maxLocals = 1 := hml0
  have hown : s.vm.findClass "java/lang/String" = some m.cls := findClass_of_methodNamed Bd.named
  have hnm := (name_of_methodNamed Bd.named Bd.method).1
  have X0 : Stand p l e ({ frames := 0, cells := 0, slots := 0, locals := 0 } : Room) s m #[(.ref a1)] below meth c s₁ [] 0 0 := Stand.of_body Bd
  have e0 : s₁.heap = h0 := by rw [← hh, Bd.state]; rfl
  have N0 := Fr.nil n0
  show Goes p e below s 0 0 (Q_codU Z a1 b1 x y cs sf h0 n0) s₁ (entryFrame m #[(.ref a1)] 1)
  refine goEq (ef__codU m a1) ?_
  obtain ⟨T1028, X1028, e1028, st1028⟩ := getS2 X0 hx hZ hown (host := "") (Or.inl (hw _ (List.mem_of_getElem? (i := 8) rfl))) Via.refl e0 (S1.ext O0.2) (g := (mkF m 0 #[.val (.ref a1)] [])) rfl (hb hby d9_0)
  refine go (T' := T1028) (g' := (mkF m 3 #[.val (.ref a1)] [(.int cs)])) st1028 ?_
  refine go (T' := T1028) (g' := (mkF m 6 #[.val (.ref a1)] [])) (fun t kt => XS.ifNo X1028.here hx rfl (hb hby d9_3) rfl ((if0 _ _).trans (feq hcs).1) kt) ?_
  refine go (T' := T1028) (g' := (mkF m 7 #[.val (.ref a1)] [(.ref a1)])) (fun t kt => XS.aloadN X1028.here hx rfl (hb hby d9_6) rfl rfl kt) ?_
  obtain ⟨T1029, X1029, e1029, st1029⟩ := getF X1028 hx hZ hown (host := "") (Or.inl (hw _ (List.mem_of_getElem? (i := 28) rfl))) Via.refl e1028 Fc (g := (mkF m 7 #[.val (.ref a1)] [(.ref a1)])) rfl rfl (hb hby d9_7)
  refine go (T' := T1029) (g' := (mkF m 10 #[.val (.ref a1)] [(.int (1 : Int32))])) st1029 ?_
  refine go (T' := T1029) (g' := (mkF m 14 #[.val (.ref a1)] [(.int (1 : Int32))])) (fun t kt => XS.goto X1029.here hx rfl (pc0 := 10) (pc' := 14) rfl (hb hby d9_10) (by decide) (by decide) kt) ?_
  refine goRetN X1029 hx hlk (t := .byte) Bd.returns (by simp) (hb hby d9_14) ?_ (by decide) (by decide)
  rw [e1029]
  exact ⟨rfl, N0, rfl⟩
theorem ef__lenU (m : MethodId) (a1 : Addr) : entryFrame m #[(.ref a1)] 1 = mkF m 0 #[.val (.ref a1)] [] := by first | (simp [entryFrame, mkF, argsToLocals, Value.category]; done) | rfl
def Q_lenU (Z : State) (a1 : Addr) (b1 : Addr) (x : Int32) (y : Int32) (cs : Int32) (sf : Value) (h0 : Heap) (n0 : Nat) (v : Option Value) (h : Heap) (L : List Loc) : Prop := v = some (.int 1) ∧ Fr n0 L ∧ h = h0
set_option maxRecDepth 65536 in
set_option maxHeartbeats 40000000 in
theorem rm_lenU (l : Launch) (Z : State) (a0 : Array Value) (hw : ∀ d ∈ tables_1, d.before a0 Z = true) (ws : List Jvm.Cond) (a1 : Addr) (b1 : Addr) (x : Int32) (y : Int32) (cs : Int32) (sf : Value) (h0 : Heap) (n0 : Nat) (Z0 : n0 ≤ h0.size) (O0 : Old Z n0 h0) (S1 : Sta Z Z.heap "java/lang/String" "COMPACT_STRINGS" "Z" (.int cs)) (hcs : ¬ cs = 0) (S2 : Sta Z Z.heap "jdk/internal/util/Preconditions" "SIOOBE_FORMATTER" "Ljava/util/function/BiFunction;" sf) (hsf : sf = .null ∨ ∃ fa, sf = .ref fa) (S3 : Sta Z Z.heap "java/lang/StringUTF16" "$assertionsDisabled" "Z" (.int (1 : Int32))) (S4 : Sta Z Z.heap "java/lang/StringUTF16" "HI_BYTE_SHIFT" "I" (.int (0 : Int32))) (S5 : Sta Z Z.heap "java/lang/StringUTF16" "LO_BYTE_SHIFT" "I" (.int (8 : Int32))) (E1 : Exa Z h0 a1 "java/lang/String") (Fv : Fld Z h0 a1 "java/lang/String" "value" "[B" (.ref b1)) (Fc : Fld Z h0 a1 "java/lang/String" "coder" "B" (.int (1 : Int32))) (V1 : Aw Z h0 b1 .byte (2 : Int32) (fun i => .int (if i = 0 then x else y))) :
    MetFree l (⟨"java/lang/String", "length", "()I"⟩ : MethodName) (head1 (Jvm.Cond.code (⟨"java/lang/String", "length", "()I"⟩ : MethodName) jdk_42_method_54_code 1 (some .int) :: ws) ({ frames := 1, cells := 0, slots := 0, locals := 13 } : Room)) (fun a U => a = #[(.ref a1)] ∧ Z.Warmed39 U.vm ∧ U.heap = h0) (fun _ _ _ _ _ => True) (fun _ U o U' => ∃ v L, o = .returned v ∧ Q_lenU Z a1 b1 x y cs sf h0 n0 v U'.heap L ∧ FrameEnd U o U' L ({ frames := 1, cells := 0, slots := 0, locals := 13 } : Room).cells ({ frames := 1, cells := 0, slots := 0, locals := 13 } : Room).slots) := by
  refine MetFree.of_bodySF (plainFor_of_name pn_16) hisR ?_
  intro p e s m args below meth c s₁ Bd hml0 hP hK
  obtain ⟨rfl, hZ, hh⟩ := hP
  have hx := Bd.exec
  have hby := Bd.bytes
  have hlk := Bd.notSynchronized
  have hml : c.maxLocals = 1 := hml0
  have hown : s.vm.findClass "java/lang/String" = some m.cls := findClass_of_methodNamed Bd.named
  have hnm := (name_of_methodNamed Bd.named Bd.method).1
  have X0 : Stand p l e ({ frames := 1, cells := 0, slots := 0, locals := 13 } : Room) s m #[(.ref a1)] below meth c s₁ [] 0 0 := Stand.of_body Bd
  have e0 : s₁.heap = h0 := by rw [← hh, Bd.state]; rfl
  have N0 := Fr.nil n0
  show Goes p e below s 0 0 (Q_lenU Z a1 b1 x y cs sf h0 n0) s₁ (entryFrame m #[(.ref a1)] 1)
  refine goEq (ef__lenU m a1) ?_
  refine go (T' := s₁) (g' := (mkF m 1 #[.val (.ref a1)] [(.ref a1)])) (fun t kt => XS.aloadN X0.here hx rfl (hb hby d8_0) rfl rfl kt) ?_
  obtain ⟨T1030, X1030, e1030, st1030⟩ := getF X0 hx hZ hown (host := "") (Or.inl (hw _ (List.mem_of_getElem? (i := 26) rfl))) Via.refl e0 Fv (g := (mkF m 1 #[.val (.ref a1)] [(.ref a1)])) rfl rfl (hb hby d8_1)
  refine go (T' := T1030) (g' := (mkF m 4 #[.val (.ref a1)] [(.ref b1)])) st1030 ?_
  refine go (T' := T1030) (g' := (mkF m 5 #[.val (.ref a1)] [(.int (2 : Int32))])) (fun t kt => own_len X1030 hx hZ e1030 V1 (g := (mkF m 4 #[.val (.ref a1)] [(.ref b1)])) rfl rfl (hb hby d8_4) _ kt) ?_
  refine go (T' := T1030) (g' := (mkF m 6 #[.val (.ref a1)] [(.ref a1), (.int (2 : Int32))])) (fun t kt => XS.aloadN X1030.here hx rfl (hb hby d8_5) rfl rfl kt) ?_
  obtain ⟨cq1031, kq1031, q1031a, q1031b, q1031c⟩ := isOf hZ e1030 E1
  obtain ⟨_, _, ⟨T1031, L1031, k1031, n1031⟩, -, X1031, ⟨Lc1031, hQ1031, l1031, y1031, z1031⟩, st1031⟩ := X1030.virtualBack hx (y := (⟨"java/lang/String", "coder", "()B"⟩ : MethodName)) (z := (⟨"java/lang/String", "coder", "()B"⟩ : MethodName)) hown (mvT hZ (hw _ (List.mem_of_getElem? (i := 38) rfl))) (mvT hZ (hw _ (List.mem_of_getElem? (i := 39) rfl))) (notFace_of_selects (args := #[]) (mvT hZ (hw _ (List.mem_of_getElem? (i := 41) rfl)))) (mvT hZ (hw _ (List.mem_of_getElem? (i := 41) rfl))) (mvT hZ (hw _ (List.mem_of_getElem? (i := 40) rfl))) (by decide) (backOf (W := 1) (rm_codU l Z a0 hw [] a1 b1 x y cs sf h0 n0 Z0 O0 S1 hcs S2 hsf S3 S4 S5 E1 Fv Fc V1) hZ (hw _ (List.mem_of_getElem? (i := 42) rfl)) (hw _ (List.mem_of_getElem? (i := 6) rfl)) (by decide) (by decide)) q1031a q1031c (g := (mkF m 6 #[.val (.ref a1)] [(.ref a1), (.int (2 : Int32))])) rfl (by rw [hml]; rfl) (Steps.refl _) (argsL := []) (rest := [(.int (2 : Int32))]) (lenOf pd_5 rfl) rfl (by show 2 * 0 + _ ≤ _; exact Nat.le_of_eq rfl) (hb hby d8_6) (fun _ _ => ⟨rfl, e1030, (by decide : 0 + 0 ≤ _), (by decide : 0 + 0 ≤ _)⟩)
  dsimp only [Pt.U, Pt.locs, Pt.cells, Pt.slots] at X1031 l1031 y1031 z1031 st1031 hQ1031
  subst l1031 y1031 z1031
  obtain ⟨rfl, N1031q, e1031⟩ := hQ1031
  have N1031 := Fr.app N0 N1031q
  refine goV (T' := T1031) (g' := (mkF m 9 #[.val (.ref a1)] [(.int (1 : Int32)), (.int (2 : Int32))])) st1031 ?_
  refine go (T' := T1031) (g' := (mkF m 10 #[.val (.ref a1)] [(.int ((2 : Int32) >>> ((1 : Int32) &&& 31)))])) (fun t kt => XS.ishr X1031.here hx rfl (hb hby d8_9) rfl kt) ?_
  refine goRetI X1031 hx hlk Bd.returns (hb hby d8_10) ?_ (by decide) (by decide)
  rw [e1031]
  exact ⟨rfl, N1031, rfl⟩
theorem ef__islU (m : MethodId) (a1 : Addr) : entryFrame m #[(.ref a1)] 1 = mkF m 0 #[.val (.ref a1)] [] := by first | (simp [entryFrame, mkF, argsToLocals, Value.category]; done) | rfl
def Q_islU (Z : State) (a1 : Addr) (b1 : Addr) (x : Int32) (y : Int32) (cs : Int32) (sf : Value) (h0 : Heap) (n0 : Nat) (v : Option Value) (h : Heap) (L : List Loc) : Prop := v = some (.int 0) ∧ Fr n0 L ∧ h = h0
set_option maxRecDepth 65536 in
set_option maxHeartbeats 40000000 in
theorem rm_islU (l : Launch) (Z : State) (a0 : Array Value) (hw : ∀ d ∈ tables_1, d.before a0 Z = true) (ws : List Jvm.Cond) (a1 : Addr) (b1 : Addr) (x : Int32) (y : Int32) (cs : Int32) (sf : Value) (h0 : Heap) (n0 : Nat) (Z0 : n0 ≤ h0.size) (O0 : Old Z n0 h0) (S1 : Sta Z Z.heap "java/lang/String" "COMPACT_STRINGS" "Z" (.int cs)) (hcs : ¬ cs = 0) (S2 : Sta Z Z.heap "jdk/internal/util/Preconditions" "SIOOBE_FORMATTER" "Ljava/util/function/BiFunction;" sf) (hsf : sf = .null ∨ ∃ fa, sf = .ref fa) (S3 : Sta Z Z.heap "java/lang/StringUTF16" "$assertionsDisabled" "Z" (.int (1 : Int32))) (S4 : Sta Z Z.heap "java/lang/StringUTF16" "HI_BYTE_SHIFT" "I" (.int (0 : Int32))) (S5 : Sta Z Z.heap "java/lang/StringUTF16" "LO_BYTE_SHIFT" "I" (.int (8 : Int32))) (E1 : Exa Z h0 a1 "java/lang/String") (Fv : Fld Z h0 a1 "java/lang/String" "value" "[B" (.ref b1)) (Fc : Fld Z h0 a1 "java/lang/String" "coder" "B" (.int (1 : Int32))) (V1 : Aw Z h0 b1 .byte (2 : Int32) (fun i => .int (if i = 0 then x else y))) :
    MetFree l (⟨"java/lang/String", "isLatin1", "()Z"⟩ : MethodName) (head1 (Jvm.Cond.code (⟨"java/lang/String", "isLatin1", "()Z"⟩ : MethodName) jdk_42_method_154_code 1 (some .boolean) :: ws) ({ frames := 0, cells := 0, slots := 0, locals := 0 } : Room)) (fun a U => a = #[(.ref a1)] ∧ Z.Warmed39 U.vm ∧ U.heap = h0) (fun _ _ _ _ _ => True) (fun _ U o U' => ∃ v L, o = .returned v ∧ Q_islU Z a1 b1 x y cs sf h0 n0 v U'.heap L ∧ FrameEnd U o U' L ({ frames := 0, cells := 0, slots := 0, locals := 0 } : Room).cells ({ frames := 0, cells := 0, slots := 0, locals := 0 } : Room).slots) := by
  refine MetFree.of_bodySF (plainFor_of_name pn_16) hisR ?_
  intro p e s m args below meth c s₁ Bd hml0 hP hK
  obtain ⟨rfl, hZ, hh⟩ := hP
  have hx := Bd.exec
  have hby := Bd.bytes
  have hlk := Bd.notSynchronized
  have hml : c.maxLocals = 1 := hml0
  have hown : s.vm.findClass "java/lang/String" = some m.cls := findClass_of_methodNamed Bd.named
  have hnm := (name_of_methodNamed Bd.named Bd.method).1
  have X0 : Stand p l e ({ frames := 0, cells := 0, slots := 0, locals := 0 } : Room) s m #[(.ref a1)] below meth c s₁ [] 0 0 := Stand.of_body Bd
  have e0 : s₁.heap = h0 := by rw [← hh, Bd.state]; rfl
  have N0 := Fr.nil n0
  show Goes p e below s 0 0 (Q_islU Z a1 b1 x y cs sf h0 n0) s₁ (entryFrame m #[(.ref a1)] 1)
  refine goEq (ef__islU m a1) ?_
  obtain ⟨T1032, X1032, e1032, st1032⟩ := getS2 X0 hx hZ hown (host := "") (Or.inl (hw _ (List.mem_of_getElem? (i := 8) rfl))) Via.refl e0 (S1.ext O0.2) (g := (mkF m 0 #[.val (.ref a1)] [])) rfl (hb hby d14_0)
  refine go (T' := T1032) (g' := (mkF m 3 #[.val (.ref a1)] [(.int cs)])) st1032 ?_
  refine go (T' := T1032) (g' := (mkF m 6 #[.val (.ref a1)] [])) (fun t kt => XS.ifNo X1032.here hx rfl (hb hby d14_3) rfl ((if0 _ _).trans (feq hcs).1) kt) ?_
  refine go (T' := T1032) (g' := (mkF m 7 #[.val (.ref a1)] [(.ref a1)])) (fun t kt => XS.aloadN X1032.here hx rfl (hb hby d14_6) rfl rfl kt) ?_
  obtain ⟨T1033, X1033, e1033, st1033⟩ := getF X1032 hx hZ hown (host := "") (Or.inl (hw _ (List.mem_of_getElem? (i := 28) rfl))) Via.refl e1032 Fc (g := (mkF m 7 #[.val (.ref a1)] [(.ref a1)])) rfl rfl (hb hby d14_7)
  refine go (T' := T1033) (g' := (mkF m 10 #[.val (.ref a1)] [(.int (1 : Int32))])) st1033 ?_
  refine go (T' := T1033) (g' := (mkF m 17 #[.val (.ref a1)] [])) (fun t kt => XS.ifYes X1033.here hx rfl (pc0 := 10) (pc' := 17) rfl (hb hby d14_10) rfl ((if0 _ _).trans (feq (by decide)).2) (by decide) (by decide) kt) ?_
  refine go (T' := T1033) (g' := (mkF m 18 #[.val (.ref a1)] [(.int (0 : Int32))])) (fun t kt => XS.iconst X1033.here hx rfl (hb hby d14_17) kt) ?_
  refine goRetN X1033 hx hlk (t := .boolean) Bd.returns (by simp) (hb hby d14_18) ?_ (by decide) (by decide)
  rw [e1033]
  exact ⟨rfl, N0, rfl⟩
theorem ef__empU (m : MethodId) (a1 : Addr) : entryFrame m #[(.ref a1)] 1 = mkF m 0 #[.val (.ref a1)] [] := by first | (simp [entryFrame, mkF, argsToLocals, Value.category]; done) | rfl
def Q_empU (Z : State) (a1 : Addr) (b1 : Addr) (x : Int32) (y : Int32) (cs : Int32) (sf : Value) (h0 : Heap) (n0 : Nat) (v : Option Value) (h : Heap) (L : List Loc) : Prop := v = some (.int 0) ∧ Fr n0 L ∧ h = h0
set_option maxRecDepth 65536 in
set_option maxHeartbeats 40000000 in
theorem rm_empU (l : Launch) (Z : State) (a0 : Array Value) (hw : ∀ d ∈ tables_1, d.before a0 Z = true) (ws : List Jvm.Cond) (a1 : Addr) (b1 : Addr) (x : Int32) (y : Int32) (cs : Int32) (sf : Value) (h0 : Heap) (n0 : Nat) (Z0 : n0 ≤ h0.size) (O0 : Old Z n0 h0) (S1 : Sta Z Z.heap "java/lang/String" "COMPACT_STRINGS" "Z" (.int cs)) (hcs : ¬ cs = 0) (S2 : Sta Z Z.heap "jdk/internal/util/Preconditions" "SIOOBE_FORMATTER" "Ljava/util/function/BiFunction;" sf) (hsf : sf = .null ∨ ∃ fa, sf = .ref fa) (S3 : Sta Z Z.heap "java/lang/StringUTF16" "$assertionsDisabled" "Z" (.int (1 : Int32))) (S4 : Sta Z Z.heap "java/lang/StringUTF16" "HI_BYTE_SHIFT" "I" (.int (0 : Int32))) (S5 : Sta Z Z.heap "java/lang/StringUTF16" "LO_BYTE_SHIFT" "I" (.int (8 : Int32))) (E1 : Exa Z h0 a1 "java/lang/String") (Fv : Fld Z h0 a1 "java/lang/String" "value" "[B" (.ref b1)) (Fc : Fld Z h0 a1 "java/lang/String" "coder" "B" (.int (1 : Int32))) (V1 : Aw Z h0 b1 .byte (2 : Int32) (fun i => .int (if i = 0 then x else y))) :
    MetFree l (⟨"java/lang/String", "isEmpty", "()Z"⟩ : MethodName) (head1 (Jvm.Cond.code (⟨"java/lang/String", "isEmpty", "()Z"⟩ : MethodName) jdk_42_method_55_code 1 (some .boolean) :: ws) ({ frames := 0, cells := 0, slots := 0, locals := 0 } : Room)) (fun a U => a = #[(.ref a1)] ∧ Z.Warmed39 U.vm ∧ U.heap = h0) (fun _ _ _ _ _ => True) (fun _ U o U' => ∃ v L, o = .returned v ∧ Q_empU Z a1 b1 x y cs sf h0 n0 v U'.heap L ∧ FrameEnd U o U' L ({ frames := 0, cells := 0, slots := 0, locals := 0 } : Room).cells ({ frames := 0, cells := 0, slots := 0, locals := 0 } : Room).slots) := by
  refine MetFree.of_bodySF (plainFor_of_name pn_16) hisR ?_
  intro p e s m args below meth c s₁ Bd hml0 hP hK
  obtain ⟨rfl, hZ, hh⟩ := hP
  have hx := Bd.exec
  have hby := Bd.bytes
  have hlk := Bd.notSynchronized
  have hml : c.maxLocals = 1 := hml0
  have hown : s.vm.findClass "java/lang/String" = some m.cls := findClass_of_methodNamed Bd.named
  have hnm := (name_of_methodNamed Bd.named Bd.method).1
  have X0 : Stand p l e ({ frames := 0, cells := 0, slots := 0, locals := 0 } : Room) s m #[(.ref a1)] below meth c s₁ [] 0 0 := Stand.of_body Bd
  have e0 : s₁.heap = h0 := by rw [← hh, Bd.state]; rfl
  have N0 := Fr.nil n0
  show Goes p e below s 0 0 (Q_empU Z a1 b1 x y cs sf h0 n0) s₁ (entryFrame m #[(.ref a1)] 1)
  refine goEq (ef__empU m a1) ?_
  refine go (T' := s₁) (g' := (mkF m 1 #[.val (.ref a1)] [(.ref a1)])) (fun t kt => XS.aloadN X0.here hx rfl (hb hby d11_0) rfl rfl kt) ?_
  obtain ⟨T1034, X1034, e1034, st1034⟩ := getF X0 hx hZ hown (host := "") (Or.inl (hw _ (List.mem_of_getElem? (i := 26) rfl))) Via.refl e0 Fv (g := (mkF m 1 #[.val (.ref a1)] [(.ref a1)])) rfl rfl (hb hby d11_1)
  refine go (T' := T1034) (g' := (mkF m 4 #[.val (.ref a1)] [(.ref b1)])) st1034 ?_
  refine go (T' := T1034) (g' := (mkF m 5 #[.val (.ref a1)] [(.int (2 : Int32))])) (fun t kt => own_len X1034 hx hZ e1034 V1 (g := (mkF m 4 #[.val (.ref a1)] [(.ref b1)])) rfl rfl (hb hby d11_4) _ kt) ?_
  refine go (T' := T1034) (g' := (mkF m 12 #[.val (.ref a1)] [])) (fun t kt => XS.ifYes X1034.here hx rfl (pc0 := 5) (pc' := 12) rfl (hb hby d11_5) rfl ((if0 _ _).trans (feq (by decide)).2) (by decide) (by decide) kt) ?_
  refine go (T' := T1034) (g' := (mkF m 13 #[.val (.ref a1)] [(.int (0 : Int32))])) (fun t kt => XS.iconst X1034.here hx rfl (hb hby d11_12) kt) ?_
  refine goRetN X1034 hx hlk (t := .boolean) Bd.returns (by simp) (hb hby d11_13) ?_ (by decide) (by decide)
  rw [e1034]
  exact ⟨rfl, N0, rfl⟩
theorem ef__chaU (m : MethodId) (a1 : Addr) (p1 : Int32) : entryFrame m #[(.ref a1), (.int p1)] 2 = mkF m 0 #[.val (.ref a1), .val (.int p1)] [] := by first | (simp [entryFrame, mkF, argsToLocals, Value.category]; done) | rfl
def Q_chaU (Z : State) (a1 : Addr) (p1 : Int32) (b1 : Addr) (x : Int32) (y : Int32) (cs : Int32) (sf : Value) (h0 : Heap) (n0 : Nat) (v : Option Value) (h : Heap) (L : List Loc) : Prop := v = some (.int (nar .char (own_u x y))) ∧ Fr n0 L ∧ h = h0
set_option maxRecDepth 65536 in
set_option maxHeartbeats 40000000 in
theorem rm_chaU (l : Launch) (Z : State) (a0 : Array Value) (hw : ∀ d ∈ tables_1, d.before a0 Z = true) (ws : List Jvm.Cond) (a1 : Addr) (p1 : Int32) (b1 : Addr) (x : Int32) (y : Int32) (cs : Int32) (sf : Value) (h0 : Heap) (n0 : Nat) (Z0 : n0 ≤ h0.size) (hp : p1 = 0) (O0 : Old Z n0 h0) (S1 : Sta Z Z.heap "java/lang/String" "COMPACT_STRINGS" "Z" (.int cs)) (hcs : ¬ cs = 0) (S2 : Sta Z Z.heap "jdk/internal/util/Preconditions" "SIOOBE_FORMATTER" "Ljava/util/function/BiFunction;" sf) (hsf : sf = .null ∨ ∃ fa, sf = .ref fa) (S3 : Sta Z Z.heap "java/lang/StringUTF16" "$assertionsDisabled" "Z" (.int (1 : Int32))) (S4 : Sta Z Z.heap "java/lang/StringUTF16" "HI_BYTE_SHIFT" "I" (.int (0 : Int32))) (S5 : Sta Z Z.heap "java/lang/StringUTF16" "LO_BYTE_SHIFT" "I" (.int (8 : Int32))) (E1 : Exa Z h0 a1 "java/lang/String") (Fv : Fld Z h0 a1 "java/lang/String" "value" "[B" (.ref b1)) (Fc : Fld Z h0 a1 "java/lang/String" "coder" "B" (.int (1 : Int32))) (V1 : Aw Z h0 b1 .byte (2 : Int32) (fun i => .int (if i = 0 then x else y))) :
    MetFree l (⟨"java/lang/String", "charAt", "(I)C"⟩ : MethodName) (head1 (Jvm.Cond.code (⟨"java/lang/String", "charAt", "(I)C"⟩ : MethodName) jdk_42_method_56_code 2 (some .char) :: ws) ({ frames := 4, cells := 0, slots := 0, locals := 53 } : Room)) (fun a U => a = #[(.ref a1), (.int p1)] ∧ Z.Warmed39 U.vm ∧ U.heap = h0) (fun _ _ _ _ _ => True) (fun _ U o U' => ∃ v L, o = .returned v ∧ Q_chaU Z a1 p1 b1 x y cs sf h0 n0 v U'.heap L ∧ FrameEnd U o U' L ({ frames := 4, cells := 0, slots := 0, locals := 53 } : Room).cells ({ frames := 4, cells := 0, slots := 0, locals := 53 } : Room).slots) := by
  refine MetFree.of_bodySF (plainFor_of_name pn_16) hisR ?_
  intro p e s m args below meth c s₁ Bd hml0 hP hK
  obtain ⟨rfl, hZ, hh⟩ := hP
  have hx := Bd.exec
  have hby := Bd.bytes
  have hlk := Bd.notSynchronized
  have hml : c.maxLocals = 2 := hml0
  have hown : s.vm.findClass "java/lang/String" = some m.cls := findClass_of_methodNamed Bd.named
  have hnm := (name_of_methodNamed Bd.named Bd.method).1
  have X0 : Stand p l e ({ frames := 4, cells := 0, slots := 0, locals := 53 } : Room) s m #[(.ref a1), (.int p1)] below meth c s₁ [] 0 0 := Stand.of_body Bd
  have e0 : s₁.heap = h0 := by rw [← hh, Bd.state]; rfl
  have N0 := Fr.nil n0
  show Goes p e below s 0 0 (Q_chaU Z a1 p1 b1 x y cs sf h0 n0) s₁ (entryFrame m #[(.ref a1), (.int p1)] 2)
  refine goEq (ef__chaU m a1 p1) ?_
  refine goEq (g' := (mkF m 0 #[.val (.ref a1), .val (.int (0 : Int32))] [])) (by rw [hp]) ?_
  refine go (T' := s₁) (g' := (mkF m 1 #[.val (.ref a1), .val (.int (0 : Int32))] [(.ref a1)])) (fun t kt => XS.aloadN X0.here hx rfl (hb hby d13_0) rfl rfl kt) ?_
  obtain ⟨cq1035, kq1035, q1035a, q1035b, q1035c⟩ := isOf hZ e0 E1
  obtain ⟨_, _, ⟨T1035, L1035, k1035, n1035⟩, -, X1035, ⟨Lc1035, hQ1035, l1035, y1035, z1035⟩, st1035⟩ := X0.virtualBack hx (y := (⟨"java/lang/String", "isLatin1", "()Z"⟩ : MethodName)) (z := (⟨"java/lang/String", "isLatin1", "()Z"⟩ : MethodName)) hown (mvT hZ (hw _ (List.mem_of_getElem? (i := 59) rfl))) (mvT hZ (hw _ (List.mem_of_getElem? (i := 60) rfl))) (notFace_of_selects (args := #[]) (mvT hZ (hw _ (List.mem_of_getElem? (i := 62) rfl)))) (mvT hZ (hw _ (List.mem_of_getElem? (i := 62) rfl))) (mvT hZ (hw _ (List.mem_of_getElem? (i := 61) rfl))) (by decide) (backOf (W := 0) (rm_islU l Z a0 hw [] a1 b1 x y cs sf h0 n0 Z0 O0 S1 hcs S2 hsf S3 S4 S5 E1 Fv Fc V1) hZ (hw _ (List.mem_of_getElem? (i := 63) rfl)) (hw _ (List.mem_of_getElem? (i := 6) rfl)) (by decide) (by decide)) q1035a q1035c (g := (mkF m 1 #[.val (.ref a1), .val (.int (0 : Int32))] [(.ref a1)])) rfl (by rw [hml]; rfl) (Steps.refl _) (argsL := []) (rest := []) (lenOf pd_6 rfl) rfl (by show 2 * 0 + _ ≤ _; exact Nat.le_of_eq rfl) (hb hby d13_1) (fun _ _ => ⟨rfl, e0, (by decide : 0 + 0 ≤ _), (by decide : 0 + 0 ≤ _)⟩)
  dsimp only [Pt.U, Pt.locs, Pt.cells, Pt.slots] at X1035 l1035 y1035 z1035 st1035 hQ1035
  subst l1035 y1035 z1035
  obtain ⟨rfl, N1035q, e1035⟩ := hQ1035
  have N1035 := Fr.app N0 N1035q
  refine goV (T' := T1035) (g' := (mkF m 4 #[.val (.ref a1), .val (.int (0 : Int32))] [(.int (0 : Int32))])) st1035 ?_
  refine go (T' := T1035) (g' := (mkF m 16 #[.val (.ref a1), .val (.int (0 : Int32))] [])) (fun t kt => XS.ifYes X1035.here hx rfl (pc0 := 4) (pc' := 16) rfl (hb hby d13_4) rfl ((if0 _ _).trans (teq rfl).1) (by decide) (by decide) kt) ?_
  refine go (T' := T1035) (g' := (mkF m 17 #[.val (.ref a1), .val (.int (0 : Int32))] [(.ref a1)])) (fun t kt => XS.aloadN X1035.here hx rfl (hb hby d13_16) rfl rfl kt) ?_
  obtain ⟨T1036, X1036, e1036, st1036⟩ := getF X1035 hx hZ hown (host := "") (Or.inl (hw _ (List.mem_of_getElem? (i := 26) rfl))) Via.refl e1035 Fv (g := (mkF m 17 #[.val (.ref a1), .val (.int (0 : Int32))] [(.ref a1)])) rfl rfl (hb hby d13_17)
  refine go (T' := T1036) (g' := (mkF m 20 #[.val (.ref a1), .val (.int (0 : Int32))] [(.ref b1)])) st1036 ?_
  refine go (T' := T1036) (g' := (mkF m 21 #[.val (.ref a1), .val (.int (0 : Int32))] [(.int (0 : Int32)), (.ref b1)])) (fun t kt => XS.iloadN X1036.here hx rfl (hb hby d13_20) rfl kt) ?_
  obtain ⟨_, _, ⟨T1037, L1037, k1037, n1037⟩, -, X1037, ⟨Lc1037, hQ1037, l1037, y1037, z1037⟩, st1037⟩ := Jvm.LawKit.callS X1036 hx (y := (⟨"java/lang/StringUTF16", "charAt", "([BI)C"⟩ : MethodName)) hown (mvT hZ (hw _ (List.mem_of_getElem? (i := 113) rfl))) (mvT hZ (hw _ (List.mem_of_getElem? (i := 114) rfl))) (mvT hZ (hw _ (List.mem_of_getElem? (i := 105) rfl))) (mvT hZ (hw _ (List.mem_of_getElem? (i := 115) rfl))) (by decide) (backOf (W := 0) (rm27 l Z a0 hw [] b1 0 x y cs sf h0 n0 Z0 O0 S1 hcs S2 hsf S3 S4 S5 rfl V1) hZ (hw _ (List.mem_of_getElem? (i := 115) rfl)) (hw _ (List.mem_of_getElem? (i := 105) rfl)) (by decide) (by decide)) (g := (mkF m 21 #[.val (.ref a1), .val (.int (0 : Int32))] [(.int (0 : Int32)), (.ref b1)])) rfl (by rw [hml]; rfl) (argsL := [(.ref b1), (.int (0 : Int32))]) (rest := []) (lenOf pd_4 rfl) rfl (by show 2 * 0 + _ ≤ _; exact Nat.le_of_eq rfl) (hb hby d13_21) (fun _ _ => ⟨rfl, e1036, (by decide : 0 + 0 ≤ _), (by decide : 0 + 0 ≤ _)⟩)
  dsimp only [Pt.U, Pt.locs, Pt.cells, Pt.slots] at X1037 l1037 y1037 z1037 st1037 hQ1037
  subst l1037 y1037 z1037
  obtain ⟨rfl, N1037q, e1037⟩ := hQ1037
  have N1037 := Fr.app N1035 N1037q
  refine go (T' := T1037) (g' := (mkF m 24 #[.val (.ref a1), .val (.int (0 : Int32))] [(.int (own_u x y))])) st1037 ?_
  refine goRetN X1037 hx hlk (t := .char) Bd.returns (by simp) (hb hby d13_24) ?_ (by decide) (by decide)
  rw [e1037]
  exact ⟨rfl, N1037, rfl⟩
theorem ef__allU (m : MethodId) (a1 : Addr) (p1 : Int32) (p2 : Int32) : entryFrame m #[(.ref a1), (.int p1), (.int p2)] 5 = mkF m 0 #[.val (.ref a1), .val (.int p1), .val (.int p2), .unset, .unset] [] := by first | (simp [entryFrame, mkF, argsToLocals, Value.category]; done) | rfl
def Q_allU (Z : State) (a1 : Addr) (p1 : Int32) (p2 : Int32) (b1 : Addr) (x : Int32) (y : Int32) (cs : Int32) (sf : Value) (h0 : Heap) (n0 : Nat) (v : Option Value) (h : Heap) (L : List Loc) : Prop := v = some (.int (own_ab (nar .char (own_u x y)))) ∧ Fr n0 L ∧ h = h0
set_option maxRecDepth 65536 in
set_option maxHeartbeats 40000000 in
theorem rm_allU (l : Launch) (Z : State) (a0 : Array Value) (hw : ∀ d ∈ tables_1, d.before a0 Z = true) (ws : List Jvm.Cond) (a1 : Addr) (p1 : Int32) (p2 : Int32) (b1 : Addr) (x : Int32) (y : Int32) (cs : Int32) (sf : Value) (h0 : Heap) (n0 : Nat) (Z0 : n0 ≤ h0.size) (hp1 : p1 = 33) (hp2 : p2 = 126) (O0 : Old Z n0 h0) (S1 : Sta Z Z.heap "java/lang/String" "COMPACT_STRINGS" "Z" (.int cs)) (hcs : ¬ cs = 0) (S2 : Sta Z Z.heap "jdk/internal/util/Preconditions" "SIOOBE_FORMATTER" "Ljava/util/function/BiFunction;" sf) (hsf : sf = .null ∨ ∃ fa, sf = .ref fa) (S3 : Sta Z Z.heap "java/lang/StringUTF16" "$assertionsDisabled" "Z" (.int (1 : Int32))) (S4 : Sta Z Z.heap "java/lang/StringUTF16" "HI_BYTE_SHIFT" "I" (.int (0 : Int32))) (S5 : Sta Z Z.heap "java/lang/StringUTF16" "LO_BYTE_SHIFT" "I" (.int (8 : Int32))) (E1 : Exa Z h0 a1 "java/lang/String") (Fv : Fld Z h0 a1 "java/lang/String" "value" "[B" (.ref b1)) (Fc : Fld Z h0 a1 "java/lang/String" "coder" "B" (.int (1 : Int32))) (V1 : Aw Z h0 b1 .byte (2 : Int32) (fun i => .int (if i = 0 then x else y))) :
    MetFree l (⟨"com/example/tallyward/tallyward/model/Codes", "allBetween", "(Ljava/lang/String;CC)Z"⟩ : MethodName) (head1 (Jvm.Cond.code (⟨"com/example/tallyward/tallyward/model/Codes", "allBetween", "(Ljava/lang/String;CC)Z"⟩ : MethodName) prog_116_method_14_code 5 (some .boolean) :: ws) ({ frames := 5, cells := 0, slots := 0, locals := 66 } : Room)) (fun a U => a = #[(.ref a1), (.int p1), (.int p2)] ∧ Z.Warmed39 U.vm ∧ U.heap = h0) (fun _ _ _ _ _ => True) (fun _ U o U' => ∃ v L, o = .returned v ∧ Q_allU Z a1 p1 p2 b1 x y cs sf h0 n0 v U'.heap L ∧ FrameEnd U o U' L ({ frames := 5, cells := 0, slots := 0, locals := 66 } : Room).cells ({ frames := 5, cells := 0, slots := 0, locals := 66 } : Room).slots) := by
  refine MetFree.of_bodySF (plainFor_of_name pn_1) hisR ?_
  intro p e s m args below meth c s₁ Bd hml0 hP hK
  obtain ⟨rfl, hZ, hh⟩ := hP
  have hx := Bd.exec
  have hby := Bd.bytes
  have hlk := Bd.notSynchronized
  have hml : c.maxLocals = 5 := hml0
  have hown : s.vm.findClass "com/example/tallyward/tallyward/model/Codes" = some m.cls := findClass_of_methodNamed Bd.named
  have hnm := (name_of_methodNamed Bd.named Bd.method).1
  have X0 : Stand p l e ({ frames := 5, cells := 0, slots := 0, locals := 66 } : Room) s m #[(.ref a1), (.int p1), (.int p2)] below meth c s₁ [] 0 0 := Stand.of_body Bd
  have e0 : s₁.heap = h0 := by rw [← hh, Bd.state]; rfl
  have N0 := Fr.nil n0
  show Goes p e below s 0 0 (Q_allU Z a1 p1 p2 b1 x y cs sf h0 n0) s₁ (entryFrame m #[(.ref a1), (.int p1), (.int p2)] 5)
  refine goEq (ef__allU m a1 p1 p2) ?_
  refine goEq (g' := (mkF m 0 #[.val (.ref a1), .val (.int (33 : Int32)), .val (.int p2), .unset, .unset] [])) (by rw [hp1]) ?_
  refine goEq (g' := (mkF m 0 #[.val (.ref a1), .val (.int (33 : Int32)), .val (.int (126 : Int32)), .unset, .unset] [])) (by rw [hp2]) ?_
  refine go (T' := s₁) (g' := (mkF m 1 #[.val (.ref a1), .val (.int (33 : Int32)), .val (.int (126 : Int32)), .unset, .unset] [(.int (0 : Int32))])) (fun t kt => XS.iconst X0.here hx rfl (hb hby d12_0) kt) ?_
  refine go (T' := s₁) (g' := (mkF m 2 #[.val (.ref a1), .val (.int (33 : Int32)), .val (.int (126 : Int32)), .val (.int (0 : Int32)), .unset] [])) (fun t kt => XS.istoreN X0.here hx rfl (hb hby d12_1) rfl (l' := #[.val (.ref a1), .val (.int (33 : Int32)), .val (.int (126 : Int32)), .val (.int (0 : Int32)), .unset]) rfl kt) ?_
  refine go (T' := s₁) (g' := (mkF m 3 #[.val (.ref a1), .val (.int (33 : Int32)), .val (.int (126 : Int32)), .val (.int (0 : Int32)), .unset] [(.int (0 : Int32))])) (fun t kt => XS.iloadN X0.here hx rfl (hb hby d12_2) rfl kt) ?_
  refine go (T' := s₁) (g' := (mkF m 4 #[.val (.ref a1), .val (.int (33 : Int32)), .val (.int (126 : Int32)), .val (.int (0 : Int32)), .unset] [(.ref a1), (.int (0 : Int32))])) (fun t kt => XS.aloadN X0.here hx rfl (hb hby d12_3) rfl rfl kt) ?_
  obtain ⟨cq1038, kq1038, q1038a, q1038b, q1038c⟩ := isOf hZ e0 E1
  obtain ⟨_, _, ⟨T1038, L1038, k1038, n1038⟩, -, X1038, ⟨Lc1038, hQ1038, l1038, y1038, z1038⟩, st1038⟩ := X0.virtualBack hx (y := (⟨"java/lang/String", "length", "()I"⟩ : MethodName)) (z := (⟨"java/lang/String", "length", "()I"⟩ : MethodName)) hown (mvT hZ (hw _ (List.mem_of_getElem? (i := 33) rfl))) (mvT hZ (hw _ (List.mem_of_getElem? (i := 34) rfl))) (notFace_of_selects (args := #[]) (mvT hZ (hw _ (List.mem_of_getElem? (i := 36) rfl)))) (mvT hZ (hw _ (List.mem_of_getElem? (i := 36) rfl))) (mvT hZ (hw _ (List.mem_of_getElem? (i := 35) rfl))) (by decide) (backOf (W := 1) (rm_lenU l Z a0 hw [] a1 b1 x y cs sf h0 n0 Z0 O0 S1 hcs S2 hsf S3 S4 S5 E1 Fv Fc V1) hZ (hw _ (List.mem_of_getElem? (i := 37) rfl)) (hw _ (List.mem_of_getElem? (i := 6) rfl)) (by decide) (by decide)) q1038a q1038c (g := (mkF m 4 #[.val (.ref a1), .val (.int (33 : Int32)), .val (.int (126 : Int32)), .val (.int (0 : Int32)), .unset] [(.ref a1), (.int (0 : Int32))])) rfl (by rw [hml]; rfl) (Steps.refl _) (argsL := []) (rest := [(.int (0 : Int32))]) (lenOf pd_7 rfl) rfl (by show 2 * 0 + _ ≤ _; exact Nat.le_of_eq rfl) (hb hby d12_4) (fun _ _ => ⟨rfl, e0, (by decide : 0 + 0 ≤ _), (by decide : 0 + 0 ≤ _)⟩)
  dsimp only [Pt.U, Pt.locs, Pt.cells, Pt.slots] at X1038 l1038 y1038 z1038 st1038 hQ1038
  subst l1038 y1038 z1038
  obtain ⟨rfl, N1038q, e1038⟩ := hQ1038
  have N1038 := Fr.app N0 N1038q
  refine goV (T' := T1038) (g' := (mkF m 7 #[.val (.ref a1), .val (.int (33 : Int32)), .val (.int (126 : Int32)), .val (.int (0 : Int32)), .unset] [(.int (1 : Int32)), (.int (0 : Int32))])) st1038 ?_
  refine go (T' := T1038) (g' := (mkF m 10 #[.val (.ref a1), .val (.int (33 : Int32)), .val (.int (126 : Int32)), .val (.int (0 : Int32)), .unset] [])) (fun t kt => XS.icmpNo X1038.here hx rfl (hb hby d12_7) rfl (tlt (by decide)).2.1 kt) ?_
  refine go (T' := T1038) (g' := (mkF m 11 #[.val (.ref a1), .val (.int (33 : Int32)), .val (.int (126 : Int32)), .val (.int (0 : Int32)), .unset] [(.ref a1)])) (fun t kt => XS.aloadN X1038.here hx rfl (hb hby d12_10) rfl rfl kt) ?_
  refine go (T' := T1038) (g' := (mkF m 12 #[.val (.ref a1), .val (.int (33 : Int32)), .val (.int (126 : Int32)), .val (.int (0 : Int32)), .unset] [(.int (0 : Int32)), (.ref a1)])) (fun t kt => XS.iloadN X1038.here hx rfl (hb hby d12_11) rfl kt) ?_
  obtain ⟨cq1039, kq1039, q1039a, q1039b, q1039c⟩ := isOf hZ e1038 E1
  obtain ⟨_, _, ⟨T1039, L1039, k1039, n1039⟩, -, X1039, ⟨Lc1039, hQ1039, l1039, y1039, z1039⟩, st1039⟩ := X1038.virtualBack hx (y := (⟨"java/lang/String", "charAt", "(I)C"⟩ : MethodName)) (z := (⟨"java/lang/String", "charAt", "(I)C"⟩ : MethodName)) hown (mvT hZ (hw _ (List.mem_of_getElem? (i := 54) rfl))) (mvT hZ (hw _ (List.mem_of_getElem? (i := 55) rfl))) (notFace_of_selects (args := #[]) (mvT hZ (hw _ (List.mem_of_getElem? (i := 57) rfl)))) (mvT hZ (hw _ (List.mem_of_getElem? (i := 57) rfl))) (mvT hZ (hw _ (List.mem_of_getElem? (i := 56) rfl))) (by decide) (backOf (W := 0) (rm_chaU l Z a0 hw [] a1 0 b1 x y cs sf h0 n0 Z0 rfl O0 S1 hcs S2 hsf S3 S4 S5 E1 Fv Fc V1) hZ (hw _ (List.mem_of_getElem? (i := 58) rfl)) (hw _ (List.mem_of_getElem? (i := 6) rfl)) (by decide) (by decide)) q1039a q1039c (g := (mkF m 12 #[.val (.ref a1), .val (.int (33 : Int32)), .val (.int (126 : Int32)), .val (.int (0 : Int32)), .unset] [(.int (0 : Int32)), (.ref a1)])) rfl (by rw [hml]; rfl) (Steps.refl _) (argsL := [(.int (0 : Int32))]) (rest := []) (lenOf pd_8 rfl) rfl (by show 2 * 0 + _ ≤ _; exact Nat.le_of_eq rfl) (hb hby d12_12) (fun _ _ => ⟨rfl, e1038, (by decide : 0 + 0 ≤ _), (by decide : 0 + 0 ≤ _)⟩)
  dsimp only [Pt.U, Pt.locs, Pt.cells, Pt.slots] at X1039 l1039 y1039 z1039 st1039 hQ1039
  subst l1039 y1039 z1039
  obtain ⟨rfl, N1039q, e1039⟩ := hQ1039
  have N1039 := Fr.app N1038 N1039q
  refine goV (T' := T1039) (g' := (mkF m 15 #[.val (.ref a1), .val (.int (33 : Int32)), .val (.int (126 : Int32)), .val (.int (0 : Int32)), .unset] [(.int (nar .char (own_u x y)))])) st1039 ?_
  refine go (T' := T1039) (g' := (mkF m 17 #[.val (.ref a1), .val (.int (33 : Int32)), .val (.int (126 : Int32)), .val (.int (0 : Int32)), .val (.int (nar .char (own_u x y)))] [])) (fun t kt => XS.istore X1039.here hx rfl (hb hby d12_15) rfl (l' := #[.val (.ref a1), .val (.int (33 : Int32)), .val (.int (126 : Int32)), .val (.int (0 : Int32)), .val (.int (nar .char (own_u x y)))]) rfl kt) ?_
  refine go (T' := T1039) (g' := (mkF m 19 #[.val (.ref a1), .val (.int (33 : Int32)), .val (.int (126 : Int32)), .val (.int (0 : Int32)), .val (.int (nar .char (own_u x y)))] [(.int (nar .char (own_u x y)))])) (fun t kt => XS.iload X1039.here hx rfl (hb hby d12_17) rfl kt) ?_
  refine go (T' := T1039) (g' := (mkF m 20 #[.val (.ref a1), .val (.int (33 : Int32)), .val (.int (126 : Int32)), .val (.int (0 : Int32)), .val (.int (nar .char (own_u x y)))] [(.int (33 : Int32)), (.int (nar .char (own_u x y)))])) (fun t kt => XS.iloadN X1039.here hx rfl (hb hby d12_19) rfl kt) ?_
  by_cases h1 : (nar .char (own_u x y)) < (33 : Int32)
  · refine go (T' := T1039) (g' := (mkF m 29 #[.val (.ref a1), .val (.int (33 : Int32)), .val (.int (126 : Int32)), .val (.int (0 : Int32)), .val (.int (nar .char (own_u x y)))] [])) (fun t kt => XS.icmpYes X1039.here hx rfl (pc0 := 20) (pc' := 29) rfl (hb hby d12_20) rfl (tlt h1).1 (by decide) (by decide) kt) ?_
    refine go (T' := T1039) (g' := (mkF m 30 #[.val (.ref a1), .val (.int (33 : Int32)), .val (.int (126 : Int32)), .val (.int (0 : Int32)), .val (.int (nar .char (own_u x y)))] [(.int (0 : Int32))])) (fun t kt => XS.iconst X1039.here hx rfl (hb hby d12_29) kt) ?_
    refine goRetN X1039 hx hlk (t := .boolean) Bd.returns (by simp) (hb hby d12_30) ?_ (by decide) (by decide)
    rw [e1039]
    exact ⟨by rw [own_ab, if_pos h1]; rfl, N1039, rfl⟩
  · refine go (T' := T1039) (g' := (mkF m 23 #[.val (.ref a1), .val (.int (33 : Int32)), .val (.int (126 : Int32)), .val (.int (0 : Int32)), .val (.int (nar .char (own_u x y)))] [])) (fun t kt => XS.icmpNo X1039.here hx rfl (hb hby d12_20) rfl (flt h1).1 kt) ?_
    refine go (T' := T1039) (g' := (mkF m 25 #[.val (.ref a1), .val (.int (33 : Int32)), .val (.int (126 : Int32)), .val (.int (0 : Int32)), .val (.int (nar .char (own_u x y)))] [(.int (nar .char (own_u x y)))])) (fun t kt => XS.iload X1039.here hx rfl (hb hby d12_23) rfl kt) ?_
    refine go (T' := T1039) (g' := (mkF m 26 #[.val (.ref a1), .val (.int (33 : Int32)), .val (.int (126 : Int32)), .val (.int (0 : Int32)), .val (.int (nar .char (own_u x y)))] [(.int (126 : Int32)), (.int (nar .char (own_u x y)))])) (fun t kt => XS.iloadN X1039.here hx rfl (hb hby d12_25) rfl kt) ?_
    by_cases h2 : (126 : Int32) < (nar .char (own_u x y))
    · refine go (T' := T1039) (g' := (mkF m 29 #[.val (.ref a1), .val (.int (33 : Int32)), .val (.int (126 : Int32)), .val (.int (0 : Int32)), .val (.int (nar .char (own_u x y)))] [])) (fun t kt => XS.icmpNo X1039.here hx rfl (hb hby d12_26) rfl (tlt h2).2.2.2 kt) ?_
      refine go (T' := T1039) (g' := (mkF m 30 #[.val (.ref a1), .val (.int (33 : Int32)), .val (.int (126 : Int32)), .val (.int (0 : Int32)), .val (.int (nar .char (own_u x y)))] [(.int (0 : Int32))])) (fun t kt => XS.iconst X1039.here hx rfl (hb hby d12_29) kt) ?_
      refine goRetN X1039 hx hlk (t := .boolean) Bd.returns (by simp) (hb hby d12_30) ?_ (by decide) (by decide)
      rw [e1039]
      exact ⟨by rw [own_ab, if_neg h1, if_pos h2]; rfl, N1039, rfl⟩
    · refine go (T' := T1039) (g' := (mkF m 31 #[.val (.ref a1), .val (.int (33 : Int32)), .val (.int (126 : Int32)), .val (.int (0 : Int32)), .val (.int (nar .char (own_u x y)))] [])) (fun t kt => XS.icmpYes X1039.here hx rfl (pc0 := 26) (pc' := 31) rfl (hb hby d12_26) rfl (flt h2).2.2.2 (by decide) (by decide) kt) ?_
      refine go (T' := T1039) (g' := (mkF m 34 #[.val (.ref a1), .val (.int (33 : Int32)), .val (.int (126 : Int32)), .val (.int ((0 : Int32) + (1 : Int32))), .val (.int (nar .char (own_u x y)))] [])) (fun t kt => XS.iinc X1039.here hx rfl (hb hby d12_31) rfl (l' := #[.val (.ref a1), .val (.int (33 : Int32)), .val (.int (126 : Int32)), .val (.int ((0 : Int32) + (1 : Int32))), .val (.int (nar .char (own_u x y)))]) rfl kt) ?_
      refine goEq (g' := (mkF m 34 #[.val (.ref a1), .val (.int (33 : Int32)), .val (.int (126 : Int32)), .val (.int (1 : Int32)), .val (.int (nar .char (own_u x y)))] [])) (rfl) ?_
      refine go (T' := T1039) (g' := (mkF m 2 #[.val (.ref a1), .val (.int (33 : Int32)), .val (.int (126 : Int32)), .val (.int (1 : Int32)), .val (.int (nar .char (own_u x y)))] [])) (fun t kt => XS.goto X1039.here hx rfl (pc0 := 34) (pc' := 2) rfl (hb hby d12_34) (by decide) (by decide) kt) ?_
      refine go (T' := T1039) (g' := (mkF m 3 #[.val (.ref a1), .val (.int (33 : Int32)), .val (.int (126 : Int32)), .val (.int (1 : Int32)), .val (.int (nar .char (own_u x y)))] [(.int (1 : Int32))])) (fun t kt => XS.iloadN X1039.here hx rfl (hb hby d12_2) rfl kt) ?_
      refine go (T' := T1039) (g' := (mkF m 4 #[.val (.ref a1), .val (.int (33 : Int32)), .val (.int (126 : Int32)), .val (.int (1 : Int32)), .val (.int (nar .char (own_u x y)))] [(.ref a1), (.int (1 : Int32))])) (fun t kt => XS.aloadN X1039.here hx rfl (hb hby d12_3) rfl rfl kt) ?_
      obtain ⟨cq1040, kq1040, q1040a, q1040b, q1040c⟩ := isOf hZ e1039 E1
      obtain ⟨_, _, ⟨T1040, L1040, k1040, n1040⟩, -, X1040, ⟨Lc1040, hQ1040, l1040, y1040, z1040⟩, st1040⟩ := X1039.virtualBack hx (y := (⟨"java/lang/String", "length", "()I"⟩ : MethodName)) (z := (⟨"java/lang/String", "length", "()I"⟩ : MethodName)) hown (mvT hZ (hw _ (List.mem_of_getElem? (i := 33) rfl))) (mvT hZ (hw _ (List.mem_of_getElem? (i := 34) rfl))) (notFace_of_selects (args := #[]) (mvT hZ (hw _ (List.mem_of_getElem? (i := 36) rfl)))) (mvT hZ (hw _ (List.mem_of_getElem? (i := 36) rfl))) (mvT hZ (hw _ (List.mem_of_getElem? (i := 35) rfl))) (by decide) (backOf (W := 1) (rm_lenU l Z a0 hw [] a1 b1 x y cs sf h0 n0 Z0 O0 S1 hcs S2 hsf S3 S4 S5 E1 Fv Fc V1) hZ (hw _ (List.mem_of_getElem? (i := 37) rfl)) (hw _ (List.mem_of_getElem? (i := 6) rfl)) (by decide) (by decide)) q1040a q1040c (g := (mkF m 4 #[.val (.ref a1), .val (.int (33 : Int32)), .val (.int (126 : Int32)), .val (.int (1 : Int32)), .val (.int (nar .char (own_u x y)))] [(.ref a1), (.int (1 : Int32))])) rfl (by rw [hml]; rfl) (Steps.refl _) (argsL := []) (rest := [(.int (1 : Int32))]) (lenOf pd_7 rfl) rfl (by show 2 * 0 + _ ≤ _; exact Nat.le_of_eq rfl) (hb hby d12_4) (fun _ _ => ⟨rfl, e1039, (by decide : 0 + 0 ≤ _), (by decide : 0 + 0 ≤ _)⟩)
      dsimp only [Pt.U, Pt.locs, Pt.cells, Pt.slots] at X1040 l1040 y1040 z1040 st1040 hQ1040
      subst l1040 y1040 z1040
      obtain ⟨rfl, N1040q, e1040⟩ := hQ1040
      have N1040 := Fr.app N1039 N1040q
      refine goV (T' := T1040) (g' := (mkF m 7 #[.val (.ref a1), .val (.int (33 : Int32)), .val (.int (126 : Int32)), .val (.int (1 : Int32)), .val (.int (nar .char (own_u x y)))] [(.int (1 : Int32)), (.int (1 : Int32))])) st1040 ?_
      refine go (T' := T1040) (g' := (mkF m 37 #[.val (.ref a1), .val (.int (33 : Int32)), .val (.int (126 : Int32)), .val (.int (1 : Int32)), .val (.int (nar .char (own_u x y)))] [])) (fun t kt => XS.icmpYes X1040.here hx rfl (pc0 := 7) (pc' := 37) rfl (hb hby d12_7) rfl (flt (by decide)).2.1 (by decide) (by decide) kt) ?_
      refine go (T' := T1040) (g' := (mkF m 38 #[.val (.ref a1), .val (.int (33 : Int32)), .val (.int (126 : Int32)), .val (.int (1 : Int32)), .val (.int (nar .char (own_u x y)))] [(.int (1 : Int32))])) (fun t kt => XS.iconst X1040.here hx rfl (hb hby d12_37) kt) ?_
      refine goRetN X1040 hx hlk (t := .boolean) Bd.returns (by simp) (hb hby d12_38) ?_ (by decide) (by decide)
      rw [e1040]
      exact ⟨by rw [own_ab, if_neg h1, if_neg h2]; rfl, N1040, rfl⟩
theorem ef__tokU (m : MethodId) (a1 : Addr) : entryFrame m #[(.ref a1)] 1 = mkF m 0 #[.val (.ref a1)] [] := by first | (simp [entryFrame, mkF, argsToLocals, Value.category]; done) | rfl
def Q_tokU (Z : State) (a1 : Addr) (b1 : Addr) (x : Int32) (y : Int32) (cs : Int32) (sf : Value) (h0 : Heap) (n0 : Nat) (v : Option Value) (h : Heap) (L : List Loc) : Prop := v = some (.int (own_ab (nar .char (own_u x y)))) ∧ Fr n0 L ∧ h = h0
set_option maxRecDepth 65536 in
set_option maxHeartbeats 40000000 in
theorem rm_tokU (l : Launch) (Z : State) (a0 : Array Value) (hw : ∀ d ∈ tables_1, d.before a0 Z = true) (ws : List Jvm.Cond) (a1 : Addr) (b1 : Addr) (x : Int32) (y : Int32) (cs : Int32) (sf : Value) (h0 : Heap) (n0 : Nat) (Z0 : n0 ≤ h0.size) (O0 : Old Z n0 h0) (S1 : Sta Z Z.heap "java/lang/String" "COMPACT_STRINGS" "Z" (.int cs)) (hcs : ¬ cs = 0) (S2 : Sta Z Z.heap "jdk/internal/util/Preconditions" "SIOOBE_FORMATTER" "Ljava/util/function/BiFunction;" sf) (hsf : sf = .null ∨ ∃ fa, sf = .ref fa) (S3 : Sta Z Z.heap "java/lang/StringUTF16" "$assertionsDisabled" "Z" (.int (1 : Int32))) (S4 : Sta Z Z.heap "java/lang/StringUTF16" "HI_BYTE_SHIFT" "I" (.int (0 : Int32))) (S5 : Sta Z Z.heap "java/lang/StringUTF16" "LO_BYTE_SHIFT" "I" (.int (8 : Int32))) (E1 : Exa Z h0 a1 "java/lang/String") (Fv : Fld Z h0 a1 "java/lang/String" "value" "[B" (.ref b1)) (Fc : Fld Z h0 a1 "java/lang/String" "coder" "B" (.int (1 : Int32))) (V1 : Aw Z h0 b1 .byte (2 : Int32) (fun i => .int (if i = 0 then x else y))) :
    MetFree l (⟨"com/example/tallyward/tallyward/model/Codes", "isToken", "(Ljava/lang/String;)Z"⟩ : MethodName) (head1 (Jvm.Cond.code (⟨"com/example/tallyward/tallyward/model/Codes", "isToken", "(Ljava/lang/String;)Z"⟩ : MethodName) prog_116_method_11_code 1 (some .boolean) :: ws) ({ frames := 6, cells := 0, slots := 0, locals := 82 } : Room)) (fun a U => a = #[(.ref a1)] ∧ Z.Warmed39 U.vm ∧ U.heap = h0) (fun _ _ _ _ _ => True) (fun _ U o U' => ∃ v L, o = .returned v ∧ Q_tokU Z a1 b1 x y cs sf h0 n0 v U'.heap L ∧ FrameEnd U o U' L ({ frames := 6, cells := 0, slots := 0, locals := 82 } : Room).cells ({ frames := 6, cells := 0, slots := 0, locals := 82 } : Room).slots) := by
  refine MetFree.of_bodySF (plainFor_of_name pn_1) hisR ?_
  intro p e s m args below meth c s₁ Bd hml0 hP hK
  obtain ⟨rfl, hZ, hh⟩ := hP
  have hx := Bd.exec
  have hby := Bd.bytes
  have hlk := Bd.notSynchronized
  have hml : c.maxLocals = 1 := hml0
  have hown : s.vm.findClass "com/example/tallyward/tallyward/model/Codes" = some m.cls := findClass_of_methodNamed Bd.named
  have hnm := (name_of_methodNamed Bd.named Bd.method).1
  have X0 : Stand p l e ({ frames := 6, cells := 0, slots := 0, locals := 82 } : Room) s m #[(.ref a1)] below meth c s₁ [] 0 0 := Stand.of_body Bd
  have e0 : s₁.heap = h0 := by rw [← hh, Bd.state]; rfl
  have N0 := Fr.nil n0
  show Goes p e below s 0 0 (Q_tokU Z a1 b1 x y cs sf h0 n0) s₁ (entryFrame m #[(.ref a1)] 1)
  refine goEq (ef__tokU m a1) ?_
  refine go (T' := s₁) (g' := (mkF m 1 #[.val (.ref a1)] [(.ref a1)])) (fun t kt => XS.aloadN X0.here hx rfl (hb hby d10_0) rfl rfl kt) ?_
  obtain ⟨cq1041, kq1041, q1041a, q1041b, q1041c⟩ := isOf hZ e0 E1
  obtain ⟨_, _, ⟨T1041, L1041, k1041, n1041⟩, -, X1041, ⟨Lc1041, hQ1041, l1041, y1041, z1041⟩, st1041⟩ := X0.virtualBack hx (y := (⟨"java/lang/String", "isEmpty", "()Z"⟩ : MethodName)) (z := (⟨"java/lang/String", "isEmpty", "()Z"⟩ : MethodName)) hown (mvT hZ (hw _ (List.mem_of_getElem? (i := 46) rfl))) (mvT hZ (hw _ (List.mem_of_getElem? (i := 47) rfl))) (notFace_of_selects (args := #[]) (mvT hZ (hw _ (List.mem_of_getElem? (i := 49) rfl)))) (mvT hZ (hw _ (List.mem_of_getElem? (i := 49) rfl))) (mvT hZ (hw _ (List.mem_of_getElem? (i := 48) rfl))) (by decide) (backOf (W := 0) (rm_empU l Z a0 hw [] a1 b1 x y cs sf h0 n0 Z0 O0 S1 hcs S2 hsf S3 S4 S5 E1 Fv Fc V1) hZ (hw _ (List.mem_of_getElem? (i := 50) rfl)) (hw _ (List.mem_of_getElem? (i := 6) rfl)) (by decide) (by decide)) q1041a q1041c (g := (mkF m 1 #[.val (.ref a1)] [(.ref a1)])) rfl (by rw [hml]; rfl) (Steps.refl _) (argsL := []) (rest := []) (lenOf pd_6 rfl) rfl (by show 2 * 0 + _ ≤ _; exact Nat.le_of_eq rfl) (hb hby d10_1) (fun _ _ => ⟨rfl, e0, (by decide : 0 + 0 ≤ _), (by decide : 0 + 0 ≤ _)⟩)
  dsimp only [Pt.U, Pt.locs, Pt.cells, Pt.slots] at X1041 l1041 y1041 z1041 st1041 hQ1041
  subst l1041 y1041 z1041
  obtain ⟨rfl, N1041q, e1041⟩ := hQ1041
  have N1041 := Fr.app N0 N1041q
  refine goV (T' := T1041) (g' := (mkF m 4 #[.val (.ref a1)] [(.int (0 : Int32))])) st1041 ?_
  refine go (T' := T1041) (g' := (mkF m 7 #[.val (.ref a1)] [])) (fun t kt => XS.ifNo X1041.here hx rfl (hb hby d10_4) rfl ((if0 _ _).trans (teq rfl).2) kt) ?_
  refine go (T' := T1041) (g' := (mkF m 8 #[.val (.ref a1)] [(.ref a1)])) (fun t kt => XS.aloadN X1041.here hx rfl (hb hby d10_7) rfl rfl kt) ?_
  refine go (T' := T1041) (g' := (mkF m 10 #[.val (.ref a1)] [(.int (33 : Int32)), (.ref a1)])) (fun t kt => XS.bipush X1041.here hx rfl (hb hby d10_8) kt) ?_
  refine go (T' := T1041) (g' := (mkF m 12 #[.val (.ref a1)] [(.int (126 : Int32)), (.int (33 : Int32)), (.ref a1)])) (fun t kt => XS.bipush X1041.here hx rfl (hb hby d10_10) kt) ?_
  obtain ⟨_, _, ⟨T1042, L1042, k1042, n1042⟩, -, X1042, ⟨Lc1042, hQ1042, l1042, y1042, z1042⟩, st1042⟩ := Jvm.LawKit.callS X1041 hx (y := (⟨"com/example/tallyward/tallyward/model/Codes", "allBetween", "(Ljava/lang/String;CC)Z"⟩ : MethodName)) hown (mvT hZ (hw _ (List.mem_of_getElem? (i := 51) rfl))) (mvT hZ (hw _ (List.mem_of_getElem? (i := 52) rfl))) (mvT hZ (hw _ (List.mem_of_getElem? (i := 2) rfl))) (mvT hZ (hw _ (List.mem_of_getElem? (i := 53) rfl))) (by decide) (backOf (W := 0) (rm_allU l Z a0 hw [] a1 33 126 b1 x y cs sf h0 n0 Z0 rfl rfl O0 S1 hcs S2 hsf S3 S4 S5 E1 Fv Fc V1) hZ (hw _ (List.mem_of_getElem? (i := 53) rfl)) (hw _ (List.mem_of_getElem? (i := 2) rfl)) (by decide) (by decide)) (g := (mkF m 12 #[.val (.ref a1)] [(.int (126 : Int32)), (.int (33 : Int32)), (.ref a1)])) rfl (by rw [hml]; rfl) (argsL := [(.ref a1), (.int (33 : Int32)), (.int (126 : Int32))]) (rest := []) (lenOf pd_9 rfl) rfl (by show 2 * 0 + _ ≤ _; exact Nat.le_of_eq rfl) (hb hby d10_12) (fun _ _ => ⟨rfl, e1041, (by decide : 0 + 0 ≤ _), (by decide : 0 + 0 ≤ _)⟩)
  dsimp only [Pt.U, Pt.locs, Pt.cells, Pt.slots] at X1042 l1042 y1042 z1042 st1042 hQ1042
  subst l1042 y1042 z1042
  obtain ⟨rfl, N1042q, e1042⟩ := hQ1042
  have N1042 := Fr.app N1041 N1042q
  refine go (T' := T1042) (g' := (mkF m 15 #[.val (.ref a1)] [(.int (own_ab (nar .char (own_u x y))))])) st1042 ?_
  by_cases hc : (own_ab (nar .char (own_u x y))) = (0 : Int32)
  · refine go (T' := T1042) (g' := (mkF m 22 #[.val (.ref a1)] [])) (fun t kt => XS.ifYes X1042.here hx rfl (pc0 := 15) (pc' := 22) rfl (hb hby d10_15) rfl ((if0 _ _).trans (teq hc).1) (by decide) (by decide) kt) ?_
    refine go (T' := T1042) (g' := (mkF m 23 #[.val (.ref a1)] [(.int (0 : Int32))])) (fun t kt => XS.iconst X1042.here hx rfl (hb hby d10_22) kt) ?_
    refine goRetN X1042 hx hlk (t := .boolean) Bd.returns (by simp) (hb hby d10_23) ?_ (by decide) (by decide)
    rw [e1042]
    exact ⟨by rw [hc]; rfl, N1042, rfl⟩
  · refine go (T' := T1042) (g' := (mkF m 18 #[.val (.ref a1)] [])) (fun t kt => XS.ifNo X1042.here hx rfl (hb hby d10_15) rfl ((if0 _ _).trans (feq hc).1) kt) ?_
    refine go (T' := T1042) (g' := (mkF m 19 #[.val (.ref a1)] [(.int (1 : Int32))])) (fun t kt => XS.iconst X1042.here hx rfl (hb hby d10_18) kt) ?_
    refine go (T' := T1042) (g' := (mkF m 23 #[.val (.ref a1)] [(.int (1 : Int32))])) (fun t kt => XS.goto X1042.here hx rfl (pc0 := 19) (pc' := 23) rfl (hb hby d10_19) (by decide) (by decide) kt) ?_
    refine goRetN X1042 hx hlk (t := .boolean) Bd.returns (by simp) (hb hby d10_23) ?_ (by decide) (by decide)
    rw [e1042]
    exact ⟨by rw [show own_ab (nar .char (own_u x y)) = 1 from by revert hc; unfold own_ab; repeat' split <;> simp]; rfl, N1042, rfl⟩
theorem d24_0 : decode jdk_43_method_23_code 0 = .ok (.iload_n 1, 1) := by decide +kernel
theorem d24_1 : decode jdk_43_method_23_code 1 = .ok (.i2b, 1) := by decide +kernel
theorem d24_2 : decode jdk_43_method_23_code 2 = .ok (.istore 4, 2) := by decide +kernel
theorem d24_4 : decode jdk_43_method_23_code 4 = .ok (.iload_n 2, 1) := by decide +kernel
theorem d24_5 : decode jdk_43_method_23_code 5 = .ok (.istore 5, 2) := by decide +kernel
theorem d24_7 : decode jdk_43_method_23_code 7 = .ok (.iload 5, 2) := by decide +kernel
theorem d24_9 : decode jdk_43_method_23_code 9 = .ok (.iload_n 3, 1) := by decide +kernel
theorem d24_10 : decode jdk_43_method_23_code 10 = .ok (.if_icmp .ge 21, 3) := by decide +kernel
theorem d24_13 : decode jdk_43_method_23_code 13 = .ok (.aload_n 0, 1) := by decide +kernel
theorem d24_14 : decode jdk_43_method_23_code 14 = .ok (.iload 5, 2) := by decide +kernel
theorem d24_16 : decode jdk_43_method_23_code 16 = .ok (.baload, 1) := by decide +kernel
theorem d24_17 : decode jdk_43_method_23_code 17 = .ok (.iload 4, 2) := by decide +kernel
theorem d24_19 : decode jdk_43_method_23_code 19 = .ok (.if_icmp .ne 6, 3) := by decide +kernel
theorem d24_22 : decode jdk_43_method_23_code 22 = .ok (.iload 5, 2) := by decide +kernel
theorem d24_24 : decode jdk_43_method_23_code 24 = .ok (.ireturn, 1) := by decide +kernel
theorem d24_25 : decode jdk_43_method_23_code 25 = .ok (.iinc 5 1, 3) := by decide +kernel
theorem d24_28 : decode jdk_43_method_23_code 28 = .ok (.goto (-21), 3) := by decide +kernel
theorem d24_31 : decode jdk_43_method_23_code 31 = .ok (.iconst (-1), 1) := by decide +kernel
theorem d24_32 : decode jdk_43_method_23_code 32 = .ok (.ireturn, 1) := by decide +kernel
theorem ef_24 (m : MethodId) (b1 : Addr) (p1 : Int32) (p2 : Int32) (p3 : Int32) : entryFrame m #[(.ref b1), (.int p1), (.int p2), (.int p3)] 6 = mkF m 0 #[.val (.ref b1), .val (.int p1), .val (.int p2), .val (.int p3), .unset, .unset] [] := by first | (simp [entryFrame, mkF, argsToLocals, Value.category]; done) | rfl
def Q24 (Z : State) (b1 : Addr) (p1 : Int32) (p2 : Int32) (p3 : Int32) (x : Int32) (h0 : Heap) (n0 : Nat) (v : Option Value) (h : Heap) (L : List Loc) : Prop := v = some (.int (if x = 44 then (0 : Int32) else -1)) ∧ Fr n0 L ∧ h = h0
set_option maxRecDepth 65536 in
set_option maxHeartbeats 40000000 in
theorem rm24 (l : Launch) (Z : State) (a0 : Array Value) (hw : ∀ d ∈ tables_1, d.before a0 Z = true) (ws : List Jvm.Cond) (b1 : Addr) (p1 : Int32) (p2 : Int32) (p3 : Int32) (x : Int32) (h0 : Heap) (n0 : Nat) (Z0 : n0 ≤ h0.size) (hp1 : p1 = 44) (hp2 : p2 = 0) (hp3 : p3 = 1) (V1 : Aw Z h0 b1 .byte 1 (fun _ => .int x)) :
    MetFree l (⟨"java/lang/StringLatin1", "indexOfChar", "([BIII)I"⟩ : MethodName) (head1 (Jvm.Cond.code (⟨"java/lang/StringLatin1", "indexOfChar", "([BIII)I"⟩ : MethodName) jdk_43_method_23_code 6 (some .int) :: ws) ({ frames := 0, cells := 0, slots := 0, locals := 0 } : Room)) (fun a U => a = #[(.ref b1), (.int p1), (.int p2), (.int p3)] ∧ Z.Warmed39 U.vm ∧ U.heap = h0) (fun _ _ _ _ _ => True) (fun _ U o U' => ∃ v L, o = .returned v ∧ Q24 Z b1 p1 p2 p3 x h0 n0 v U'.heap L ∧ FrameEnd U o U' L ({ frames := 0, cells := 0, slots := 0, locals := 0 } : Room).cells ({ frames := 0, cells := 0, slots := 0, locals := 0 } : Room).slots) := by
  refine MetFree.of_bodySF (plainFor_of_name pn_3) hisR ?_
  intro p e s m args below meth c s₁ Bd hml0 hP hK
  obtain ⟨rfl, hZ, hh⟩ := hP
  have hx := Bd.exec
  have hby := Bd.bytes
  have hlk := Bd.notSynchronized
  have hml : c.maxLocals = 6 := hml0
  have hown : s.vm.findClass "java/lang/StringLatin1" = some m.cls := findClass_of_methodNamed Bd.named
  have hnm := (name_of_methodNamed Bd.named Bd.method).1
  have X0 : Stand p l e ({ frames := 0, cells := 0, slots := 0, locals := 0 } : Room) s m #[(.ref b1), (.int p1), (.int p2), (.int p3)] below meth c s₁ [] 0 0 := Stand.of_body Bd
  have e0 : s₁.heap = h0 := by rw [← hh, Bd.state]; rfl
  have N0 := Fr.nil n0
  show Goes p e below s 0 0 (Q24 Z b1 p1 p2 p3 x h0 n0) s₁ (entryFrame m #[(.ref b1), (.int p1), (.int p2), (.int p3)] 6)
  refine goEq (ef_24 m b1 p1 p2 p3) ?_
  refine goEq (g' := (mkF m 0 #[.val (.ref b1), .val (.int (44 : Int32)), .val (.int p2), .val (.int p3), .unset, .unset] [])) (by rw [hp1]) ?_
  refine goEq (g' := (mkF m 0 #[.val (.ref b1), .val (.int (44 : Int32)), .val (.int (0 : Int32)), .val (.int p3), .unset, .unset] [])) (by rw [hp2]) ?_
  refine goEq (g' := (mkF m 0 #[.val (.ref b1), .val (.int (44 : Int32)), .val (.int (0 : Int32)), .val (.int (1 : Int32)), .unset, .unset] [])) (by rw [hp3]) ?_
  refine go (T' := s₁) (g' := (mkF m 1 #[.val (.ref b1), .val (.int (44 : Int32)), .val (.int (0 : Int32)), .val (.int (1 : Int32)), .unset, .unset] [(.int (44 : Int32))])) (fun t kt => XS.iloadN X0.here hx rfl (hb hby d24_0) rfl kt) ?_
  refine go (T' := s₁) (g' := (mkF m 2 #[.val (.ref b1), .val (.int (44 : Int32)), .val (.int (0 : Int32)), .val (.int (1 : Int32)), .unset, .unset] [(.int ((44 : Int32).toInt8.toInt32))])) (fun t kt => XS.i2b X0.here hx rfl (hb hby d24_1) rfl kt) ?_
  refine goEq (g' := (mkF m 2 #[.val (.ref b1), .val (.int (44 : Int32)), .val (.int (0 : Int32)), .val (.int (1 : Int32)), .unset, .unset] [(.int (44 : Int32))])) (rfl) ?_
  refine go (T' := s₁) (g' := (mkF m 4 #[.val (.ref b1), .val (.int (44 : Int32)), .val (.int (0 : Int32)), .val (.int (1 : Int32)), .val (.int (44 : Int32)), .unset] [])) (fun t kt => XS.istore X0.here hx rfl (hb hby d24_2) rfl (l' := #[.val (.ref b1), .val (.int (44 : Int32)), .val (.int (0 : Int32)), .val (.int (1 : Int32)), .val (.int (44 : Int32)), .unset]) rfl kt) ?_
  refine go (T' := s₁) (g' := (mkF m 5 #[.val (.ref b1), .val (.int (44 : Int32)), .val (.int (0 : Int32)), .val (.int (1 : Int32)), .val (.int (44 : Int32)), .unset] [(.int (0 : Int32))])) (fun t kt => XS.iloadN X0.here hx rfl (hb hby d24_4) rfl kt) ?_
  refine go (T' := s₁) (g' := (mkF m 7 #[.val (.ref b1), .val (.int (44 : Int32)), .val (.int (0 : Int32)), .val (.int (1 : Int32)), .val (.int (44 : Int32)), .val (.int (0 : Int32))] [])) (fun t kt => XS.istore X0.here hx rfl (hb hby d24_5) rfl (l' := #[.val (.ref b1), .val (.int (44 : Int32)), .val (.int (0 : Int32)), .val (.int (1 : Int32)), .val (.int (44 : Int32)), .val (.int (0 : Int32))]) rfl kt) ?_
  refine go (T' := s₁) (g' := (mkF m 9 #[.val (.ref b1), .val (.int (44 : Int32)), .val (.int (0 : Int32)), .val (.int (1 : Int32)), .val (.int (44 : Int32)), .val (.int (0 : Int32))] [(.int (0 : Int32))])) (fun t kt => XS.iload X0.here hx rfl (hb hby d24_7) rfl kt) ?_
  refine go (T' := s₁) (g' := (mkF m 10 #[.val (.ref b1), .val (.int (44 : Int32)), .val (.int (0 : Int32)), .val (.int (1 : Int32)), .val (.int (44 : Int32)), .val (.int (0 : Int32))] [(.int (1 : Int32)), (.int (0 : Int32))])) (fun t kt => XS.iloadN X0.here hx rfl (hb hby d24_9) rfl kt) ?_
  refine go (T' := s₁) (g' := (mkF m 13 #[.val (.ref b1), .val (.int (44 : Int32)), .val (.int (0 : Int32)), .val (.int (1 : Int32)), .val (.int (44 : Int32)), .val (.int (0 : Int32))] [])) (fun t kt => XS.icmpNo X0.here hx rfl (hb hby d24_10) rfl (tlt (by decide)).2.1 kt) ?_
  refine go (T' := s₁) (g' := (mkF m 14 #[.val (.ref b1), .val (.int (44 : Int32)), .val (.int (0 : Int32)), .val (.int (1 : Int32)), .val (.int (44 : Int32)), .val (.int (0 : Int32))] [(.ref b1)])) (fun t kt => XS.aloadN X0.here hx rfl (hb hby d24_13) rfl rfl kt) ?_
  refine go (T' := s₁) (g' := (mkF m 16 #[.val (.ref b1), .val (.int (44 : Int32)), .val (.int (0 : Int32)), .val (.int (1 : Int32)), .val (.int (44 : Int32)), .val (.int (0 : Int32))] [(.int (0 : Int32)), (.ref b1)])) (fun t kt => XS.iload X0.here hx rfl (hb hby d24_14) rfl kt) ?_
  refine go (T' := s₁) (g' := (mkF m 17 #[.val (.ref b1), .val (.int (44 : Int32)), .val (.int (0 : Int32)), .val (.int (1 : Int32)), .val (.int (44 : Int32)), .val (.int (0 : Int32))] [(.int x)])) (fun t kt => own_ldB X0 hx hZ e0 V1 (j := (0 : Int32)) ⟨by decide, by decide⟩ (v := (.int x)) rfl (g := (mkF m 16 #[.val (.ref b1), .val (.int (44 : Int32)), .val (.int (0 : Int32)), .val (.int (1 : Int32)), .val (.int (44 : Int32)), .val (.int (0 : Int32))] [(.int (0 : Int32)), (.ref b1)])) rfl rfl (hb hby d24_16) _ kt) ?_
  refine go (T' := s₁) (g' := (mkF m 19 #[.val (.ref b1), .val (.int (44 : Int32)), .val (.int (0 : Int32)), .val (.int (1 : Int32)), .val (.int (44 : Int32)), .val (.int (0 : Int32))] [(.int (44 : Int32)), (.int x)])) (fun t kt => XS.iload X0.here hx rfl (hb hby d24_17) rfl kt) ?_
  by_cases hc : x = (44 : Int32)
  · refine go (T' := s₁) (g' := (mkF m 22 #[.val (.ref b1), .val (.int (44 : Int32)), .val (.int (0 : Int32)), .val (.int (1 : Int32)), .val (.int (44 : Int32)), .val (.int (0 : Int32))] [])) (fun t kt => XS.icmpNo X0.here hx rfl (hb hby d24_19) rfl (teq hc).2 kt) ?_
    refine go (T' := s₁) (g' := (mkF m 24 #[.val (.ref b1), .val (.int (44 : Int32)), .val (.int (0 : Int32)), .val (.int (1 : Int32)), .val (.int (44 : Int32)), .val (.int (0 : Int32))] [(.int (0 : Int32))])) (fun t kt => XS.iload X0.here hx rfl (hb hby d24_22) rfl kt) ?_
    refine goRetI X0 hx hlk Bd.returns (hb hby d24_24) ?_ (by decide) (by decide)
    rw [e0]
    exact ⟨by rw [if_pos hc], N0, rfl⟩
  · refine go (T' := s₁) (g' := (mkF m 25 #[.val (.ref b1), .val (.int (44 : Int32)), .val (.int (0 : Int32)), .val (.int (1 : Int32)), .val (.int (44 : Int32)), .val (.int (0 : Int32))] [])) (fun t kt => XS.icmpYes X0.here hx rfl (pc0 := 19) (pc' := 25) rfl (hb hby d24_19) rfl (feq hc).2 (by decide) (by decide) kt) ?_
    refine go (T' := s₁) (g' := (mkF m 28 #[.val (.ref b1), .val (.int (44 : Int32)), .val (.int (0 : Int32)), .val (.int (1 : Int32)), .val (.int (44 : Int32)), .val (.int ((0 : Int32) + (1 : Int32)))] [])) (fun t kt => XS.iinc X0.here hx rfl (hb hby d24_25) rfl (l' := #[.val (.ref b1), .val (.int (44 : Int32)), .val (.int (0 : Int32)), .val (.int (1 : Int32)), .val (.int (44 : Int32)), .val (.int ((0 : Int32) + (1 : Int32)))]) rfl kt) ?_
    refine goEq (g' := (mkF m 28 #[.val (.ref b1), .val (.int (44 : Int32)), .val (.int (0 : Int32)), .val (.int (1 : Int32)), .val (.int (44 : Int32)), .val (.int (1 : Int32))] [])) (rfl) ?_
    refine go (T' := s₁) (g' := (mkF m 7 #[.val (.ref b1), .val (.int (44 : Int32)), .val (.int (0 : Int32)), .val (.int (1 : Int32)), .val (.int (44 : Int32)), .val (.int (1 : Int32))] [])) (fun t kt => XS.goto X0.here hx rfl (pc0 := 28) (pc' := 7) rfl (hb hby d24_28) (by decide) (by decide) kt) ?_
    refine go (T' := s₁) (g' := (mkF m 9 #[.val (.ref b1), .val (.int (44 : Int32)), .val (.int (0 : Int32)), .val (.int (1 : Int32)), .val (.int (44 : Int32)), .val (.int (1 : Int32))] [(.int (1 : Int32))])) (fun t kt => XS.iload X0.here hx rfl (hb hby d24_7) rfl kt) ?_
    refine go (T' := s₁) (g' := (mkF m 10 #[.val (.ref b1), .val (.int (44 : Int32)), .val (.int (0 : Int32)), .val (.int (1 : Int32)), .val (.int (44 : Int32)), .val (.int (1 : Int32))] [(.int (1 : Int32)), (.int (1 : Int32))])) (fun t kt => XS.iloadN X0.here hx rfl (hb hby d24_9) rfl kt) ?_
    refine go (T' := s₁) (g' := (mkF m 31 #[.val (.ref b1), .val (.int (44 : Int32)), .val (.int (0 : Int32)), .val (.int (1 : Int32)), .val (.int (44 : Int32)), .val (.int (1 : Int32))] [])) (fun t kt => XS.icmpYes X0.here hx rfl (pc0 := 10) (pc' := 31) rfl (hb hby d24_10) rfl (flt (by decide)).2.1 (by decide) (by decide) kt) ?_
    refine go (T' := s₁) (g' := (mkF m 32 #[.val (.ref b1), .val (.int (44 : Int32)), .val (.int (0 : Int32)), .val (.int (1 : Int32)), .val (.int (44 : Int32)), .val (.int (1 : Int32))] [(.int (-1 : Int32))])) (fun t kt => XS.iconst X0.here hx rfl (hb hby d24_31) kt) ?_
    refine goRetI X0 hx hlk Bd.returns (hb hby d24_32) ?_ (by decide) (by decide)
    rw [e0]
    exact ⟨by rw [if_neg hc], N0, rfl⟩
theorem d20_0 : decode jdk_43_method_22_code 0 = .ok (.iload_n 1, 1) := by decide +kernel
theorem d20_1 : decode jdk_43_method_22_code 1 = .ok (.invokestatic 88, 3) := by decide +kernel
theorem d20_4 : decode jdk_43_method_22_code 4 = .ok (.ifCond .ne 5, 3) := by decide +kernel
theorem d20_7 : decode jdk_43_method_22_code 7 = .ok (.iconst (-1), 1) := by decide +kernel
theorem d20_8 : decode jdk_43_method_22_code 8 = .ok (.ireturn, 1) := by decide +kernel
theorem d20_9 : decode jdk_43_method_22_code 9 = .ok (.iload_n 2, 1) := by decide +kernel
theorem d20_10 : decode jdk_43_method_22_code 10 = .ok (.iconst 0, 1) := by decide +kernel
theorem d20_11 : decode jdk_43_method_22_code 11 = .ok (.invokestatic 92, 3) := by decide +kernel
theorem d20_14 : decode jdk_43_method_22_code 14 = .ok (.istore_n 2, 1) := by decide +kernel
theorem d20_15 : decode jdk_43_method_22_code 15 = .ok (.iload_n 3, 1) := by decide +kernel
theorem d20_16 : decode jdk_43_method_22_code 16 = .ok (.aload_n 0, 1) := by decide +kernel
theorem d20_17 : decode jdk_43_method_22_code 17 = .ok (.arraylength, 1) := by decide +kernel
theorem d20_18 : decode jdk_43_method_22_code 18 = .ok (.invokestatic 38, 3) := by decide +kernel
theorem d20_21 : decode jdk_43_method_22_code 21 = .ok (.istore_n 3, 1) := by decide +kernel
theorem d20_22 : decode jdk_43_method_22_code 22 = .ok (.iload_n 2, 1) := by decide +kernel
theorem d20_23 : decode jdk_43_method_22_code 23 = .ok (.iload_n 3, 1) := by decide +kernel
theorem d20_24 : decode jdk_43_method_22_code 24 = .ok (.if_icmp .lt 5, 3) := by decide +kernel
theorem d20_27 : decode jdk_43_method_22_code 27 = .ok (.iconst (-1), 1) := by decide +kernel
theorem d20_28 : decode jdk_43_method_22_code 28 = .ok (.ireturn, 1) := by decide +kernel
theorem d20_29 : decode jdk_43_method_22_code 29 = .ok (.aload_n 0, 1) := by decide +kernel
theorem d20_30 : decode jdk_43_method_22_code 30 = .ok (.iload_n 1, 1) := by decide +kernel
theorem d20_31 : decode jdk_43_method_22_code 31 = .ok (.iload_n 2, 1) := by decide +kernel
theorem d20_32 : decode jdk_43_method_22_code 32 = .ok (.iload_n 3, 1) := by decide +kernel
theorem d20_33 : decode jdk_43_method_22_code 33 = .ok (.invokestatic 95, 3) := by decide +kernel
theorem d20_36 : decode jdk_43_method_22_code 36 = .ok (.ireturn, 1) := by decide +kernel
theorem pd_10 : parseMethodDescriptor "(I)Z" = some ⟨[.int], some .boolean⟩ := by decide +kernel
theorem pd_11 : parseMethodDescriptor "(II)I" = some ⟨[.int, .int], some .int⟩ := by decide +kernel
theorem pd_12 : parseMethodDescriptor "([BIII)I" = some ⟨[(.array .byte), .int, .int, .int], some .int⟩ := by decide +kernel
theorem ef_20 (m : MethodId) (b1 : Addr) (p1 : Int32) (p2 : Int32) (p3 : Int32) : entryFrame m #[(.ref b1), (.int p1), (.int p2), (.int p3)] 4 = mkF m 0 #[.val (.ref b1), .val (.int p1), .val (.int p2), .val (.int p3)] [] := by first | (simp [entryFrame, mkF, argsToLocals, Value.category]; done) | rfl
def Q20 (Z : State) (b1 : Addr) (p1 : Int32) (p2 : Int32) (p3 : Int32) (x : Int32) (h0 : Heap) (n0 : Nat) (v : Option Value) (h : Heap) (L : List Loc) : Prop := v = some (.int (if x = 44 then (0 : Int32) else -1)) ∧ Fr n0 L ∧ h = h0
set_option maxRecDepth 65536 in
set_option maxHeartbeats 40000000 in
theorem rm20 (l : Launch) (Z : State) (a0 : Array Value) (hw : ∀ d ∈ tables_1, d.before a0 Z = true) (ws : List Jvm.Cond) (b1 : Addr) (p1 : Int32) (p2 : Int32) (p3 : Int32) (x : Int32) (h0 : Heap) (n0 : Nat) (Z0 : n0 ≤ h0.size) (hp1 : p1 = 44) (hp2 : p2 = 0) (hp3 : p3 = 1) (V1 : Aw Z h0 b1 .byte 1 (fun _ => .int x)) :
    MetFree l (⟨"java/lang/StringLatin1", "indexOf", "([BIII)I"⟩ : MethodName) (head1 (Jvm.Cond.code (⟨"java/lang/StringLatin1", "indexOf", "([BIII)I"⟩ : MethodName) jdk_43_method_22_code 4 (some .int) :: ws) ({ frames := 1, cells := 0, slots := 0, locals := 17 } : Room)) (fun a U => a = #[(.ref b1), (.int p1), (.int p2), (.int p3)] ∧ Z.Warmed39 U.vm ∧ U.heap = h0) (fun _ _ _ _ _ => True) (fun _ U o U' => ∃ v L, o = .returned v ∧ Q20 Z b1 p1 p2 p3 x h0 n0 v U'.heap L ∧ FrameEnd U o U' L ({ frames := 1, cells := 0, slots := 0, locals := 17 } : Room).cells ({ frames := 1, cells := 0, slots := 0, locals := 17 } : Room).slots) := by
  refine MetFree.of_bodySF (plainFor_of_name pn_3) hisR ?_
  intro p e s m args below meth c s₁ Bd hml0 hP hK
  obtain ⟨rfl, hZ, hh⟩ := hP
  have hx := Bd.exec
  have hby := Bd.bytes
  have hlk := Bd.notSynchronized
  have hml : c.maxLocals = 4 := hml0
  have hown : s.vm.findClass "java/lang/StringLatin1" = some m.cls := findClass_of_methodNamed Bd.named
  have hnm := (name_of_methodNamed Bd.named Bd.method).1
  have X0 : Stand p l e ({ frames := 1, cells := 0, slots := 0, locals := 17 } : Room) s m #[(.ref b1), (.int p1), (.int p2), (.int p3)] below meth c s₁ [] 0 0 := Stand.of_body Bd
  have e0 : s₁.heap = h0 := by rw [← hh, Bd.state]; rfl
  have N0 := Fr.nil n0
  show Goes p e below s 0 0 (Q20 Z b1 p1 p2 p3 x h0 n0) s₁ (entryFrame m #[(.ref b1), (.int p1), (.int p2), (.int p3)] 4)
  refine goEq (ef_20 m b1 p1 p2 p3) ?_
  refine goEq (g' := (mkF m 0 #[.val (.ref b1), .val (.int (44 : Int32)), .val (.int p2), .val (.int p3)] [])) (by rw [hp1]) ?_
  refine goEq (g' := (mkF m 0 #[.val (.ref b1), .val (.int (44 : Int32)), .val (.int (0 : Int32)), .val (.int p3)] [])) (by rw [hp2]) ?_
  refine goEq (g' := (mkF m 0 #[.val (.ref b1), .val (.int (44 : Int32)), .val (.int (0 : Int32)), .val (.int (1 : Int32))] [])) (by rw [hp3]) ?_
  refine go (T' := s₁) (g' := (mkF m 1 #[.val (.ref b1), .val (.int (44 : Int32)), .val (.int (0 : Int32)), .val (.int (1 : Int32))] [(.int (44 : Int32))])) (fun t kt => XS.iloadN X0.here hx rfl (hb hby d20_0) rfl kt) ?_
  obtain ⟨_, _, ⟨T1043, L1043, k1043, n1043⟩, -, X1043, ⟨Lc1043, hQ1043, l1043, y1043, z1043⟩, st1043⟩ := Jvm.LawKit.callS X0 hx (y := (⟨"java/lang/StringLatin1", "canEncode", "(I)Z"⟩ : MethodName)) hown (mvT hZ (hw _ (List.mem_of_getElem? (i := 89) rfl))) (mvT hZ (hw _ (List.mem_of_getElem? (i := 90) rfl))) (mvT hZ (hw _ (List.mem_of_getElem? (i := 11) rfl))) (mvT hZ (hw _ (List.mem_of_getElem? (i := 91) rfl))) (by decide) (backOf (W := 0) (rm21 l Z a0 hw [] 44 h0 n0 Z0 rfl) hZ (hw _ (List.mem_of_getElem? (i := 91) rfl)) (hw _ (List.mem_of_getElem? (i := 11) rfl)) (by decide) (by decide)) (g := (mkF m 1 #[.val (.ref b1), .val (.int (44 : Int32)), .val (.int (0 : Int32)), .val (.int (1 : Int32))] [(.int (44 : Int32))])) rfl (by rw [hml]; rfl) (argsL := [(.int (44 : Int32))]) (rest := []) (lenOf pd_10 rfl) rfl (by show 2 * 0 + _ ≤ _; exact Nat.le_of_eq rfl) (hb hby d20_1) (fun _ _ => ⟨rfl, e0, (by decide : 0 + 0 ≤ _), (by decide : 0 + 0 ≤ _)⟩)
  dsimp only [Pt.U, Pt.locs, Pt.cells, Pt.slots] at X1043 l1043 y1043 z1043 st1043 hQ1043
  subst l1043 y1043 z1043
  obtain ⟨rfl, N1043q, e1043⟩ := hQ1043
  have N1043 := Fr.app N0 N1043q
  refine go (T' := T1043) (g' := (mkF m 4 #[.val (.ref b1), .val (.int (44 : Int32)), .val (.int (0 : Int32)), .val (.int (1 : Int32))] [(.int (1 : Int32))])) st1043 ?_
  refine go (T' := T1043) (g' := (mkF m 9 #[.val (.ref b1), .val (.int (44 : Int32)), .val (.int (0 : Int32)), .val (.int (1 : Int32))] [])) (fun t kt => XS.ifYes X1043.here hx rfl (pc0 := 4) (pc' := 9) rfl (hb hby d20_4) rfl ((if0 _ _).trans (feq (by decide)).2) (by decide) (by decide) kt) ?_
  refine go (T' := T1043) (g' := (mkF m 10 #[.val (.ref b1), .val (.int (44 : Int32)), .val (.int (0 : Int32)), .val (.int (1 : Int32))] [(.int (0 : Int32))])) (fun t kt => XS.iloadN X1043.here hx rfl (hb hby d20_9) rfl kt) ?_
  refine go (T' := T1043) (g' := (mkF m 11 #[.val (.ref b1), .val (.int (44 : Int32)), .val (.int (0 : Int32)), .val (.int (1 : Int32))] [(.int (0 : Int32)), (.int (0 : Int32))])) (fun t kt => XS.iconst X1043.here hx rfl (hb hby d20_10) kt) ?_
  obtain ⟨_, _, ⟨T1044, L1044, k1044, n1044⟩, -, X1044, ⟨Lc1044, hQ1044, l1044, y1044, z1044⟩, st1044⟩ := Jvm.LawKit.callS X1043 hx (y := (⟨"java/lang/Math", "max", "(II)I"⟩ : MethodName)) hown (mvT hZ (hw _ (List.mem_of_getElem? (i := 92) rfl))) (mvT hZ (hw _ (List.mem_of_getElem? (i := 93) rfl))) (mvT hZ (hw _ (List.mem_of_getElem? (i := 94) rfl))) (mvT hZ (hw _ (List.mem_of_getElem? (i := 95) rfl))) (by decide) (backOf (W := 0) (rm22 l Z a0 hw [] 0 0 h0 n0 Z0) hZ (hw _ (List.mem_of_getElem? (i := 95) rfl)) (hw _ (List.mem_of_getElem? (i := 94) rfl)) (by decide) (by decide)) (g := (mkF m 11 #[.val (.ref b1), .val (.int (44 : Int32)), .val (.int (0 : Int32)), .val (.int (1 : Int32))] [(.int (0 : Int32)), (.int (0 : Int32))])) rfl (by rw [hml]; rfl) (argsL := [(.int (0 : Int32)), (.int (0 : Int32))]) (rest := []) (lenOf pd_11 rfl) rfl (by show 2 * 0 + _ ≤ _; exact Nat.le_of_eq rfl) (hb hby d20_11) (fun _ _ => ⟨rfl, e1043, (by decide : 0 + 0 ≤ _), (by decide : 0 + 0 ≤ _)⟩)
  dsimp only [Pt.U, Pt.locs, Pt.cells, Pt.slots] at X1044 l1044 y1044 z1044 st1044 hQ1044
  subst l1044 y1044 z1044
  obtain ⟨rfl, N1044q, e1044⟩ := hQ1044
  have N1044 := Fr.app N1043 N1044q
  refine go (T' := T1044) (g' := (mkF m 14 #[.val (.ref b1), .val (.int (44 : Int32)), .val (.int (0 : Int32)), .val (.int (1 : Int32))] [(.int (own_max 0 0))])) st1044 ?_
  refine goEq (g' := (mkF m 14 #[.val (.ref b1), .val (.int (44 : Int32)), .val (.int (0 : Int32)), .val (.int (1 : Int32))] [(.int (0 : Int32))])) (rfl) ?_
  refine go (T' := T1044) (g' := (mkF m 15 #[.val (.ref b1), .val (.int (44 : Int32)), .val (.int (0 : Int32)), .val (.int (1 : Int32))] [])) (fun t kt => XS.istoreN X1044.here hx rfl (hb hby d20_14) rfl (l' := #[.val (.ref b1), .val (.int (44 : Int32)), .val (.int (0 : Int32)), .val (.int (1 : Int32))]) rfl kt) ?_
  refine go (T' := T1044) (g' := (mkF m 16 #[.val (.ref b1), .val (.int (44 : Int32)), .val (.int (0 : Int32)), .val (.int (1 : Int32))] [(.int (1 : Int32))])) (fun t kt => XS.iloadN X1044.here hx rfl (hb hby d20_15) rfl kt) ?_
  refine go (T' := T1044) (g' := (mkF m 17 #[.val (.ref b1), .val (.int (44 : Int32)), .val (.int (0 : Int32)), .val (.int (1 : Int32))] [(.ref b1), (.int (1 : Int32))])) (fun t kt => XS.aloadN X1044.here hx rfl (hb hby d20_16) rfl rfl kt) ?_
  refine go (T' := T1044) (g' := (mkF m 18 #[.val (.ref b1), .val (.int (44 : Int32)), .val (.int (0 : Int32)), .val (.int (1 : Int32))] [(.int (1 : Int32)), (.int (1 : Int32))])) (fun t kt => own_len X1044 hx hZ e1044 V1 (g := (mkF m 17 #[.val (.ref b1), .val (.int (44 : Int32)), .val (.int (0 : Int32)), .val (.int (1 : Int32))] [(.ref b1), (.int (1 : Int32))])) rfl rfl (hb hby d20_17) _ kt) ?_
  obtain ⟨_, _, ⟨T1045, L1045, k1045, n1045⟩, -, X1045, ⟨Lc1045, hQ1045, l1045, y1045, z1045⟩, st1045⟩ := Jvm.LawKit.callS X1044 hx (y := (⟨"java/lang/Math", "min", "(II)I"⟩ : MethodName)) hown (mvT hZ (hw _ (List.mem_of_getElem? (i := 96) rfl))) (mvT hZ (hw _ (List.mem_of_getElem? (i := 97) rfl))) (mvT hZ (hw _ (List.mem_of_getElem? (i := 94) rfl))) (mvT hZ (hw _ (List.mem_of_getElem? (i := 98) rfl))) (by decide) (backOf (W := 0) (rm23 l Z a0 hw [] 1 1 h0 n0 Z0) hZ (hw _ (List.mem_of_getElem? (i := 98) rfl)) (hw _ (List.mem_of_getElem? (i := 94) rfl)) (by decide) (by decide)) (g := (mkF m 18 #[.val (.ref b1), .val (.int (44 : Int32)), .val (.int (0 : Int32)), .val (.int (1 : Int32))] [(.int (1 : Int32)), (.int (1 : Int32))])) rfl (by rw [hml]; rfl) (argsL := [(.int (1 : Int32)), (.int (1 : Int32))]) (rest := []) (lenOf pd_11 rfl) rfl (by show 2 * 0 + _ ≤ _; exact Nat.le_of_eq rfl) (hb hby d20_18) (fun _ _ => ⟨rfl, e1044, (by decide : 0 + 0 ≤ _), (by decide : 0 + 0 ≤ _)⟩)
  dsimp only [Pt.U, Pt.locs, Pt.cells, Pt.slots] at X1045 l1045 y1045 z1045 st1045 hQ1045
  subst l1045 y1045 z1045
  obtain ⟨rfl, N1045q, e1045⟩ := hQ1045
  have N1045 := Fr.app N1044 N1045q
  refine go (T' := T1045) (g' := (mkF m 21 #[.val (.ref b1), .val (.int (44 : Int32)), .val (.int (0 : Int32)), .val (.int (1 : Int32))] [(.int (own_min 1 1))])) st1045 ?_
  refine goEq (g' := (mkF m 21 #[.val (.ref b1), .val (.int (44 : Int32)), .val (.int (0 : Int32)), .val (.int (1 : Int32))] [(.int (1 : Int32))])) (rfl) ?_
  refine go (T' := T1045) (g' := (mkF m 22 #[.val (.ref b1), .val (.int (44 : Int32)), .val (.int (0 : Int32)), .val (.int (1 : Int32))] [])) (fun t kt => XS.istoreN X1045.here hx rfl (hb hby d20_21) rfl (l' := #[.val (.ref b1), .val (.int (44 : Int32)), .val (.int (0 : Int32)), .val (.int (1 : Int32))]) rfl kt) ?_
  refine go (T' := T1045) (g' := (mkF m 23 #[.val (.ref b1), .val (.int (44 : Int32)), .val (.int (0 : Int32)), .val (.int (1 : Int32))] [(.int (0 : Int32))])) (fun t kt => XS.iloadN X1045.here hx rfl (hb hby d20_22) rfl kt) ?_
  refine go (T' := T1045) (g' := (mkF m 24 #[.val (.ref b1), .val (.int (44 : Int32)), .val (.int (0 : Int32)), .val (.int (1 : Int32))] [(.int (1 : Int32)), (.int (0 : Int32))])) (fun t kt => XS.iloadN X1045.here hx rfl (hb hby d20_23) rfl kt) ?_
  refine go (T' := T1045) (g' := (mkF m 29 #[.val (.ref b1), .val (.int (44 : Int32)), .val (.int (0 : Int32)), .val (.int (1 : Int32))] [])) (fun t kt => XS.icmpYes X1045.here hx rfl (pc0 := 24) (pc' := 29) rfl (hb hby d20_24) rfl (tlt (by decide)).1 (by decide) (by decide) kt) ?_
  refine go (T' := T1045) (g' := (mkF m 30 #[.val (.ref b1), .val (.int (44 : Int32)), .val (.int (0 : Int32)), .val (.int (1 : Int32))] [(.ref b1)])) (fun t kt => XS.aloadN X1045.here hx rfl (hb hby d20_29) rfl rfl kt) ?_
  refine go (T' := T1045) (g' := (mkF m 31 #[.val (.ref b1), .val (.int (44 : Int32)), .val (.int (0 : Int32)), .val (.int (1 : Int32))] [(.int (44 : Int32)), (.ref b1)])) (fun t kt => XS.iloadN X1045.here hx rfl (hb hby d20_30) rfl kt) ?_
  refine go (T' := T1045) (g' := (mkF m 32 #[.val (.ref b1), .val (.int (44 : Int32)), .val (.int (0 : Int32)), .val (.int (1 : Int32))] [(.int (0 : Int32)), (.int (44 : Int32)), (.ref b1)])) (fun t kt => XS.iloadN X1045.here hx rfl (hb hby d20_31) rfl kt) ?_
  refine go (T' := T1045) (g' := (mkF m 33 #[.val (.ref b1), .val (.int (44 : Int32)), .val (.int (0 : Int32)), .val (.int (1 : Int32))] [(.int (1 : Int32)), (.int (0 : Int32)), (.int (44 : Int32)), (.ref b1)])) (fun t kt => XS.iloadN X1045.here hx rfl (hb hby d20_32) rfl kt) ?_
  obtain ⟨_, _, ⟨T1046, L1046, k1046, n1046⟩, -, X1046, ⟨Lc1046, hQ1046, l1046, y1046, z1046⟩, st1046⟩ := Jvm.LawKit.callS X1045 hx (y := (⟨"java/lang/StringLatin1", "indexOfChar", "([BIII)I"⟩ : MethodName)) hown (mvT hZ (hw _ (List.mem_of_getElem? (i := 99) rfl))) (mvT hZ (hw _ (List.mem_of_getElem? (i := 100) rfl))) (mvT hZ (hw _ (List.mem_of_getElem? (i := 11) rfl))) (mvT hZ (hw _ (List.mem_of_getElem? (i := 101) rfl))) (by decide) (backOf (W := 0) (rm24 l Z a0 hw [] b1 44 0 1 x h0 n0 Z0 rfl rfl rfl V1) hZ (hw _ (List.mem_of_getElem? (i := 101) rfl)) (hw _ (List.mem_of_getElem? (i := 11) rfl)) (by decide) (by decide)) (g := (mkF m 33 #[.val (.ref b1), .val (.int (44 : Int32)), .val (.int (0 : Int32)), .val (.int (1 : Int32))] [(.int (1 : Int32)), (.int (0 : Int32)), (.int (44 : Int32)), (.ref b1)])) rfl (by rw [hml]; rfl) (argsL := [(.ref b1), (.int (44 : Int32)), (.int (0 : Int32)), (.int (1 : Int32))]) (rest := []) (lenOf pd_12 rfl) rfl (by show 2 * 0 + _ ≤ _; exact Nat.le_of_eq rfl) (hb hby d20_33) (fun _ _ => ⟨rfl, e1045, (by decide : 0 + 0 ≤ _), (by decide : 0 + 0 ≤ _)⟩)
  dsimp only [Pt.U, Pt.locs, Pt.cells, Pt.slots] at X1046 l1046 y1046 z1046 st1046 hQ1046
  subst l1046 y1046 z1046
  obtain ⟨rfl, N1046q, e1046⟩ := hQ1046
  have N1046 := Fr.app N1045 N1046q
  refine go (T' := T1046) (g' := (mkF m 36 #[.val (.ref b1), .val (.int (44 : Int32)), .val (.int (0 : Int32)), .val (.int (1 : Int32))] [(.int (if x = 44 then (0 : Int32) else -1))])) st1046 ?_
  refine goRetI X1046 hx hlk Bd.returns (hb hby d20_36) ?_ (by decide) (by decide)
  rw [e1046]
  exact ⟨rfl, N1046, rfl⟩
theorem d19_0 : decode jdk_42_method_80_code 0 = .ok (.aload_n 0, 1) := by decide +kernel
theorem d19_1 : decode jdk_42_method_80_code 1 = .ok (.invokevirtual 492, 3) := by decide +kernel
theorem d19_4 : decode jdk_42_method_80_code 4 = .ok (.ifCond .eq 19, 3) := by decide +kernel
theorem d19_7 : decode jdk_42_method_80_code 7 = .ok (.aload_n 0, 1) := by decide +kernel
theorem d19_8 : decode jdk_42_method_80_code 8 = .ok (.getfield 9, 3) := by decide +kernel
theorem d19_11 : decode jdk_42_method_80_code 11 = .ok (.iload_n 1, 1) := by decide +kernel
theorem d19_12 : decode jdk_42_method_80_code 12 = .ok (.iload_n 2, 1) := by decide +kernel
theorem d19_13 : decode jdk_42_method_80_code 13 = .ok (.aload_n 0, 1) := by decide +kernel
theorem d19_14 : decode jdk_42_method_80_code 14 = .ok (.invokevirtual 505, 3) := by decide +kernel
theorem d19_17 : decode jdk_42_method_80_code 17 = .ok (.invokestatic 637, 3) := by decide +kernel
theorem d19_20 : decode jdk_42_method_80_code 20 = .ok (.goto 16, 3) := by decide +kernel
theorem d19_23 : decode jdk_42_method_80_code 23 = .ok (.aload_n 0, 1) := by decide +kernel
theorem d19_24 : decode jdk_42_method_80_code 24 = .ok (.getfield 9, 3) := by decide +kernel
theorem d19_27 : decode jdk_42_method_80_code 27 = .ok (.iload_n 1, 1) := by decide +kernel
theorem d19_28 : decode jdk_42_method_80_code 28 = .ok (.iload_n 2, 1) := by decide +kernel
theorem d19_29 : decode jdk_42_method_80_code 29 = .ok (.aload_n 0, 1) := by decide +kernel
theorem d19_30 : decode jdk_42_method_80_code 30 = .ok (.invokevirtual 505, 3) := by decide +kernel
theorem d19_33 : decode jdk_42_method_80_code 33 = .ok (.invokestatic 640, 3) := by decide +kernel
theorem d19_36 : decode jdk_42_method_80_code 36 = .ok (.ireturn, 1) := by decide +kernel
theorem ef_19 (m : MethodId) (a1 : Addr) (p1 : Int32) (p2 : Int32) : entryFrame m #[(.ref a1), (.int p1), (.int p2)] 3 = mkF m 0 #[.val (.ref a1), .val (.int p1), .val (.int p2)] [] := by first | (simp [entryFrame, mkF, argsToLocals, Value.category]; done) | rfl
def Q19 (Z : State) (a1 : Addr) (p1 : Int32) (p2 : Int32) (b1 : Addr) (x : Int32) (cs : Int32) (sf : Value) (h0 : Heap) (n0 : Nat) (v : Option Value) (h : Heap) (L : List Loc) : Prop := v = some (.int (if x = 44 then (0 : Int32) else -1)) ∧ Fr n0 L ∧ h = h0
set_option maxRecDepth 65536 in
set_option maxHeartbeats 40000000 in
theorem rm19 (l : Launch) (Z : State) (a0 : Array Value) (hw : ∀ d ∈ tables_1, d.before a0 Z = true) (ws : List Jvm.Cond) (a1 : Addr) (p1 : Int32) (p2 : Int32) (b1 : Addr) (x : Int32) (cs : Int32) (sf : Value) (h0 : Heap) (n0 : Nat) (Z0 : n0 ≤ h0.size) (hp1 : p1 = 44) (hp2 : p2 = 0) (O0 : Old Z n0 h0) (S1 : Sta Z Z.heap "java/lang/String" "COMPACT_STRINGS" "Z" (.int cs)) (hcs : ¬ cs = 0) (S2 : Sta Z Z.heap "jdk/internal/util/Preconditions" "SIOOBE_FORMATTER" "Ljava/util/function/BiFunction;" sf) (hsf : sf = .null ∨ ∃ fa, sf = .ref fa) (S3 : Sta Z Z.heap "java/lang/StringUTF16" "$assertionsDisabled" "Z" (.int (1 : Int32))) (S4 : Sta Z Z.heap "java/lang/StringUTF16" "HI_BYTE_SHIFT" "I" (.int (0 : Int32))) (S5 : Sta Z Z.heap "java/lang/StringUTF16" "LO_BYTE_SHIFT" "I" (.int (8 : Int32))) (E1 : Exa Z h0 a1 "java/lang/String") (Fv : Fld Z h0 a1 "java/lang/String" "value" "[B" (.ref b1)) (Fc : Fld Z h0 a1 "java/lang/String" "coder" "B" (.int (0 : Int32))) (V1 : Aw Z h0 b1 .byte (1 : Int32) (fun _ => .int x)) :
    MetFree l (⟨"java/lang/String", "indexOf", "(II)I"⟩ : MethodName) (head1 (Jvm.Cond.code (⟨"java/lang/String", "indexOf", "(II)I"⟩ : MethodName) jdk_42_method_80_code 3 (some .int) :: ws) ({ frames := 2, cells := 0, slots := 0, locals := 32 } : Room)) (fun a U => a = #[(.ref a1), (.int p1), (.int p2)] ∧ Z.Warmed39 U.vm ∧ U.heap = h0) (fun _ _ _ _ _ => True) (fun _ U o U' => ∃ v L, o = .returned v ∧ Q19 Z a1 p1 p2 b1 x cs sf h0 n0 v U'.heap L ∧ FrameEnd U o U' L ({ frames := 2, cells := 0, slots := 0, locals := 32 } : Room).cells ({ frames := 2, cells := 0, slots := 0, locals := 32 } : Room).slots) := by
  refine MetFree.of_bodySF (plainFor_of_name pn_16) hisR ?_
  intro p e s m args below meth c s₁ Bd hml0 hP hK
  obtain ⟨rfl, hZ, hh⟩ := hP
  have hx := Bd.exec
  have hby := Bd.bytes
  have hlk := Bd.notSynchronized
  have hml : c.maxLocals = 3 := hml0
  have hown : s.vm.findClass "java/lang/String" = some m.cls := findClass_of_methodNamed Bd.named
  have hnm := (name_of_methodNamed Bd.named Bd.method).1
  have X0 : Stand p l e ({ frames := 2, cells := 0, slots := 0, locals := 32 } : Room) s m #[(.ref a1), (.int p1), (.int p2)] below meth c s₁ [] 0 0 := Stand.of_body Bd
  have e0 : s₁.heap = h0 := by rw [← hh, Bd.state]; rfl
  have N0 := Fr.nil n0
  show Goes p e below s 0 0 (Q19 Z a1 p1 p2 b1 x cs sf h0 n0) s₁ (entryFrame m #[(.ref a1), (.int p1), (.int p2)] 3)
  refine goEq (ef_19 m a1 p1 p2) ?_
  refine goEq (g' := (mkF m 0 #[.val (.ref a1), .val (.int (44 : Int32)), .val (.int p2)] [])) (by rw [hp1]) ?_
  refine goEq (g' := (mkF m 0 #[.val (.ref a1), .val (.int (44 : Int32)), .val (.int (0 : Int32))] [])) (by rw [hp2]) ?_
  refine go (T' := s₁) (g' := (mkF m 1 #[.val (.ref a1), .val (.int (44 : Int32)), .val (.int (0 : Int32))] [(.ref a1)])) (fun t kt => XS.aloadN X0.here hx rfl (hb hby d19_0) rfl rfl kt) ?_
  obtain ⟨cq1047, kq1047, q1047a, q1047b, q1047c⟩ := isOf hZ e0 E1
  obtain ⟨_, _, ⟨T1047, L1047, k1047, n1047⟩, -, X1047, ⟨Lc1047, hQ1047, l1047, y1047, z1047⟩, st1047⟩ := X0.virtualBack hx (y := (⟨"java/lang/String", "isLatin1", "()Z"⟩ : MethodName)) (z := (⟨"java/lang/String", "isLatin1", "()Z"⟩ : MethodName)) hown (mvT hZ (hw _ (List.mem_of_getElem? (i := 59) rfl))) (mvT hZ (hw _ (List.mem_of_getElem? (i := 60) rfl))) (notFace_of_selects (args := #[]) (mvT hZ (hw _ (List.mem_of_getElem? (i := 62) rfl)))) (mvT hZ (hw _ (List.mem_of_getElem? (i := 62) rfl))) (mvT hZ (hw _ (List.mem_of_getElem? (i := 61) rfl))) (by decide) (backOf (W := 0) (rm_islL l Z a0 hw [] a1 b1 x cs sf h0 n0 Z0 O0 S1 hcs S2 hsf S3 S4 S5 E1 Fv Fc V1) hZ (hw _ (List.mem_of_getElem? (i := 63) rfl)) (hw _ (List.mem_of_getElem? (i := 6) rfl)) (by decide) (by decide)) q1047a q1047c (g := (mkF m 1 #[.val (.ref a1), .val (.int (44 : Int32)), .val (.int (0 : Int32))] [(.ref a1)])) rfl (by rw [hml]; rfl) (Steps.refl _) (argsL := []) (rest := []) (lenOf pd_6 rfl) rfl (by show 2 * 0 + _ ≤ _; exact Nat.le_of_eq rfl) (hb hby d19_1) (fun _ _ => ⟨rfl, e0, (by decide : 0 + 0 ≤ _), (by decide : 0 + 0 ≤ _)⟩)
  dsimp only [Pt.U, Pt.locs, Pt.cells, Pt.slots] at X1047 l1047 y1047 z1047 st1047 hQ1047
  subst l1047 y1047 z1047
  obtain ⟨rfl, N1047q, e1047⟩ := hQ1047
  have N1047 := Fr.app N0 N1047q
  refine goV (T' := T1047) (g' := (mkF m 4 #[.val (.ref a1), .val (.int (44 : Int32)), .val (.int (0 : Int32))] [(.int (1 : Int32))])) st1047 ?_
  refine go (T' := T1047) (g' := (mkF m 7 #[.val (.ref a1), .val (.int (44 : Int32)), .val (.int (0 : Int32))] [])) (fun t kt => XS.ifNo X1047.here hx rfl (hb hby d19_4) rfl ((if0 _ _).trans (feq (by decide)).1) kt) ?_
  refine go (T' := T1047) (g' := (mkF m 8 #[.val (.ref a1), .val (.int (44 : Int32)), .val (.int (0 : Int32))] [(.ref a1)])) (fun t kt => XS.aloadN X1047.here hx rfl (hb hby d19_7) rfl rfl kt) ?_
  obtain ⟨T1048, X1048, e1048, st1048⟩ := getF X1047 hx hZ hown (host := "") (Or.inl (hw _ (List.mem_of_getElem? (i := 26) rfl))) Via.refl e1047 Fv (g := (mkF m 8 #[.val (.ref a1), .val (.int (44 : Int32)), .val (.int (0 : Int32))] [(.ref a1)])) rfl rfl (hb hby d19_8)
  refine go (T' := T1048) (g' := (mkF m 11 #[.val (.ref a1), .val (.int (44 : Int32)), .val (.int (0 : Int32))] [(.ref b1)])) st1048 ?_
  refine go (T' := T1048) (g' := (mkF m 12 #[.val (.ref a1), .val (.int (44 : Int32)), .val (.int (0 : Int32))] [(.int (44 : Int32)), (.ref b1)])) (fun t kt => XS.iloadN X1048.here hx rfl (hb hby d19_11) rfl kt) ?_
  refine go (T' := T1048) (g' := (mkF m 13 #[.val (.ref a1), .val (.int (44 : Int32)), .val (.int (0 : Int32))] [(.int (0 : Int32)), (.int (44 : Int32)), (.ref b1)])) (fun t kt => XS.iloadN X1048.here hx rfl (hb hby d19_12) rfl kt) ?_
  refine go (T' := T1048) (g' := (mkF m 14 #[.val (.ref a1), .val (.int (44 : Int32)), .val (.int (0 : Int32))] [(.ref a1), (.int (0 : Int32)), (.int (44 : Int32)), (.ref b1)])) (fun t kt => XS.aloadN X1048.here hx rfl (hb hby d19_13) rfl rfl kt) ?_
  obtain ⟨cq1049, kq1049, q1049a, q1049b, q1049c⟩ := isOf hZ e1048 E1
  obtain ⟨_, _, ⟨T1049, L1049, k1049, n1049⟩, -, X1049, ⟨Lc1049, hQ1049, l1049, y1049, z1049⟩, st1049⟩ := X1048.virtualBack hx (y := (⟨"java/lang/String", "length", "()I"⟩ : MethodName)) (z := (⟨"java/lang/String", "length", "()I"⟩ : MethodName)) hown (mvT hZ (hw _ (List.mem_of_getElem? (i := 85) rfl))) (mvT hZ (hw _ (List.mem_of_getElem? (i := 34) rfl))) (notFace_of_selects (args := #[]) (mvT hZ (hw _ (List.mem_of_getElem? (i := 36) rfl)))) (mvT hZ (hw _ (List.mem_of_getElem? (i := 36) rfl))) (mvT hZ (hw _ (List.mem_of_getElem? (i := 35) rfl))) (by decide) (backOf (W := 3) (rm_lenL l Z a0 hw [] a1 b1 x cs sf h0 n0 Z0 O0 S1 hcs S2 hsf S3 S4 S5 E1 Fv Fc V1) hZ (hw _ (List.mem_of_getElem? (i := 37) rfl)) (hw _ (List.mem_of_getElem? (i := 6) rfl)) (by decide) (by decide)) q1049a q1049c (g := (mkF m 14 #[.val (.ref a1), .val (.int (44 : Int32)), .val (.int (0 : Int32))] [(.ref a1), (.int (0 : Int32)), (.int (44 : Int32)), (.ref b1)])) rfl (by rw [hml]; rfl) (Steps.refl _) (argsL := []) (rest := [(.int (0 : Int32)), (.int (44 : Int32)), (.ref b1)]) (lenOf pd_7 rfl) rfl (by show 2 * 0 + _ ≤ _; exact Nat.le_of_eq rfl) (hb hby d19_14) (fun _ _ => ⟨rfl, e1048, (by decide : 0 + 0 ≤ _), (by decide : 0 + 0 ≤ _)⟩)
  dsimp only [Pt.U, Pt.locs, Pt.cells, Pt.slots] at X1049 l1049 y1049 z1049 st1049 hQ1049
  subst l1049 y1049 z1049
  obtain ⟨rfl, N1049q, e1049⟩ := hQ1049
  have N1049 := Fr.app N1047 N1049q
  refine goV (T' := T1049) (g' := (mkF m 17 #[.val (.ref a1), .val (.int (44 : Int32)), .val (.int (0 : Int32))] [(.int (1 : Int32)), (.int (0 : Int32)), (.int (44 : Int32)), (.ref b1)])) st1049 ?_
  obtain ⟨_, _, ⟨T1050, L1050, k1050, n1050⟩, -, X1050, ⟨Lc1050, hQ1050, l1050, y1050, z1050⟩, st1050⟩ := Jvm.LawKit.callS X1049 hx (y := (⟨"java/lang/StringLatin1", "indexOf", "([BIII)I"⟩ : MethodName)) hown (mvT hZ (hw _ (List.mem_of_getElem? (i := 86) rfl))) (mvT hZ (hw _ (List.mem_of_getElem? (i := 87) rfl))) (mvT hZ (hw _ (List.mem_of_getElem? (i := 11) rfl))) (mvT hZ (hw _ (List.mem_of_getElem? (i := 88) rfl))) (by decide) (backOf (W := 0) (rm20 l Z a0 hw [] b1 44 0 1 x h0 n0 Z0 rfl rfl rfl V1) hZ (hw _ (List.mem_of_getElem? (i := 88) rfl)) (hw _ (List.mem_of_getElem? (i := 11) rfl)) (by decide) (by decide)) (g := (mkF m 17 #[.val (.ref a1), .val (.int (44 : Int32)), .val (.int (0 : Int32))] [(.int (1 : Int32)), (.int (0 : Int32)), (.int (44 : Int32)), (.ref b1)])) rfl (by rw [hml]; rfl) (argsL := [(.ref b1), (.int (44 : Int32)), (.int (0 : Int32)), (.int (1 : Int32))]) (rest := []) (lenOf pd_12 rfl) rfl (by show 2 * 0 + _ ≤ _; exact Nat.le_of_eq rfl) (hb hby d19_17) (fun _ _ => ⟨rfl, e1049, (by decide : 0 + 0 ≤ _), (by decide : 0 + 0 ≤ _)⟩)
  dsimp only [Pt.U, Pt.locs, Pt.cells, Pt.slots] at X1050 l1050 y1050 z1050 st1050 hQ1050
  subst l1050 y1050 z1050
  obtain ⟨rfl, N1050q, e1050⟩ := hQ1050
  have N1050 := Fr.app N1049 N1050q
  refine go (T' := T1050) (g' := (mkF m 20 #[.val (.ref a1), .val (.int (44 : Int32)), .val (.int (0 : Int32))] [(.int (if x = 44 then (0 : Int32) else -1))])) st1050 ?_
  refine go (T' := T1050) (g' := (mkF m 36 #[.val (.ref a1), .val (.int (44 : Int32)), .val (.int (0 : Int32))] [(.int (if x = 44 then (0 : Int32) else -1))])) (fun t kt => XS.goto X1050.here hx rfl (pc0 := 20) (pc' := 36) rfl (hb hby d19_20) (by decide) (by decide) kt) ?_
  refine goRetI X1050 hx hlk Bd.returns (hb hby d19_36) ?_ (by decide) (by decide)
  rw [e1050]
  exact ⟨rfl, N1050, rfl⟩
theorem d18_0 : decode jdk_42_method_79_code 0 = .ok (.aload_n 0, 1) := by decide +kernel
theorem d18_1 : decode jdk_42_method_79_code 1 = .ok (.iload_n 1, 1) := by decide +kernel
theorem d18_2 : decode jdk_42_method_79_code 2 = .ok (.iconst 0, 1) := by decide +kernel
theorem d18_3 : decode jdk_42_method_79_code 3 = .ok (.invokevirtual 633, 3) := by decide +kernel
theorem d18_6 : decode jdk_42_method_79_code 6 = .ok (.ireturn, 1) := by decide +kernel
theorem ef_18 (m : MethodId) (a1 : Addr) (p1 : Int32) : entryFrame m #[(.ref a1), (.int p1)] 2 = mkF m 0 #[.val (.ref a1), .val (.int p1)] [] := by first | (simp [entryFrame, mkF, argsToLocals, Value.category]; done) | rfl
def Q18 (Z : State) (a1 : Addr) (p1 : Int32) (b1 : Addr) (x : Int32) (cs : Int32) (sf : Value) (h0 : Heap) (n0 : Nat) (v : Option Value) (h : Heap) (L : List Loc) : Prop := v = some (.int (if x = 44 then (0 : Int32) else -1)) ∧ Fr n0 L ∧ h = h0
set_option maxRecDepth 65536 in
set_option maxHeartbeats 40000000 in
theorem rm18 (l : Launch) (Z : State) (a0 : Array Value) (hw : ∀ d ∈ tables_1, d.before a0 Z = true) (ws : List Jvm.Cond) (a1 : Addr) (p1 : Int32) (b1 : Addr) (x : Int32) (cs : Int32) (sf : Value) (h0 : Heap) (n0 : Nat) (Z0 : n0 ≤ h0.size) (hp1 : p1 = 44) (O0 : Old Z n0 h0) (S1 : Sta Z Z.heap "java/lang/String" "COMPACT_STRINGS" "Z" (.int cs)) (hcs : ¬ cs = 0) (S2 : Sta Z Z.heap "jdk/internal/util/Preconditions" "SIOOBE_FORMATTER" "Ljava/util/function/BiFunction;" sf) (hsf : sf = .null ∨ ∃ fa, sf = .ref fa) (S3 : Sta Z Z.heap "java/lang/StringUTF16" "$assertionsDisabled" "Z" (.int (1 : Int32))) (S4 : Sta Z Z.heap "java/lang/StringUTF16" "HI_BYTE_SHIFT" "I" (.int (0 : Int32))) (S5 : Sta Z Z.heap "java/lang/StringUTF16" "LO_BYTE_SHIFT" "I" (.int (8 : Int32))) (E1 : Exa Z h0 a1 "java/lang/String") (Fv : Fld Z h0 a1 "java/lang/String" "value" "[B" (.ref b1)) (Fc : Fld Z h0 a1 "java/lang/String" "coder" "B" (.int (0 : Int32))) (V1 : Aw Z h0 b1 .byte (1 : Int32) (fun _ => .int x)) :
    MetFree l (⟨"java/lang/String", "indexOf", "(I)I"⟩ : MethodName) (head1 (Jvm.Cond.code (⟨"java/lang/String", "indexOf", "(I)I"⟩ : MethodName) jdk_42_method_79_code 2 (some .int) :: ws) ({ frames := 3, cells := 0, slots := 0, locals := 46 } : Room)) (fun a U => a = #[(.ref a1), (.int p1)] ∧ Z.Warmed39 U.vm ∧ U.heap = h0) (fun _ _ _ _ _ => True) (fun _ U o U' => ∃ v L, o = .returned v ∧ Q18 Z a1 p1 b1 x cs sf h0 n0 v U'.heap L ∧ FrameEnd U o U' L ({ frames := 3, cells := 0, slots := 0, locals := 46 } : Room).cells ({ frames := 3, cells := 0, slots := 0, locals := 46 } : Room).slots) := by
  refine MetFree.of_bodySF (plainFor_of_name pn_16) hisR ?_
  intro p e s m args below meth c s₁ Bd hml0 hP hK
  obtain ⟨rfl, hZ, hh⟩ := hP
  have hx := Bd.exec
  have hby := Bd.bytes
  have hlk := Bd.notSynchronized
  have hml : c.maxLocals = 2 := hml0
  have hown : s.vm.findClass "java/lang/String" = some m.cls := findClass_of_methodNamed Bd.named
  have hnm := (name_of_methodNamed Bd.named Bd.method).1
  have X0 : Stand p l e ({ frames := 3, cells := 0, slots := 0, locals := 46 } : Room) s m #[(.ref a1), (.int p1)] below meth c s₁ [] 0 0 := Stand.of_body Bd
  have e0 : s₁.heap = h0 := by rw [← hh, Bd.state]; rfl
  have N0 := Fr.nil n0
  show Goes p e below s 0 0 (Q18 Z a1 p1 b1 x cs sf h0 n0) s₁ (entryFrame m #[(.ref a1), (.int p1)] 2)
  refine goEq (ef_18 m a1 p1) ?_
  refine goEq (g' := (mkF m 0 #[.val (.ref a1), .val (.int (44 : Int32))] [])) (by rw [hp1]) ?_
  refine go (T' := s₁) (g' := (mkF m 1 #[.val (.ref a1), .val (.int (44 : Int32))] [(.ref a1)])) (fun t kt => XS.aloadN X0.here hx rfl (hb hby d18_0) rfl rfl kt) ?_
  refine go (T' := s₁) (g' := (mkF m 2 #[.val (.ref a1), .val (.int (44 : Int32))] [(.int (44 : Int32)), (.ref a1)])) (fun t kt => XS.iloadN X0.here hx rfl (hb hby d18_1) rfl kt) ?_
  refine go (T' := s₁) (g' := (mkF m 3 #[.val (.ref a1), .val (.int (44 : Int32))] [(.int (0 : Int32)), (.int (44 : Int32)), (.ref a1)])) (fun t kt => XS.iconst X0.here hx rfl (hb hby d18_2) kt) ?_
  obtain ⟨cq1051, kq1051, q1051a, q1051b, q1051c⟩ := isOf hZ e0 E1
  obtain ⟨_, _, ⟨T1051, L1051, k1051, n1051⟩, -, X1051, ⟨Lc1051, hQ1051, l1051, y1051, z1051⟩, st1051⟩ := X0.virtualBack hx (y := (⟨"java/lang/String", "indexOf", "(II)I"⟩ : MethodName)) (z := (⟨"java/lang/String", "indexOf", "(II)I"⟩ : MethodName)) hown (mvT hZ (hw _ (List.mem_of_getElem? (i := 80) rfl))) (mvT hZ (hw _ (List.mem_of_getElem? (i := 81) rfl))) (notFace_of_selects (args := #[]) (mvT hZ (hw _ (List.mem_of_getElem? (i := 83) rfl)))) (mvT hZ (hw _ (List.mem_of_getElem? (i := 83) rfl))) (mvT hZ (hw _ (List.mem_of_getElem? (i := 82) rfl))) (by decide) (backOf (W := 0) (rm19 l Z a0 hw [] a1 44 0 b1 x cs sf h0 n0 Z0 rfl rfl O0 S1 hcs S2 hsf S3 S4 S5 E1 Fv Fc V1) hZ (hw _ (List.mem_of_getElem? (i := 84) rfl)) (hw _ (List.mem_of_getElem? (i := 6) rfl)) (by decide) (by decide)) q1051a q1051c (g := (mkF m 3 #[.val (.ref a1), .val (.int (44 : Int32))] [(.int (0 : Int32)), (.int (44 : Int32)), (.ref a1)])) rfl (by rw [hml]; rfl) (Steps.refl _) (argsL := [(.int (44 : Int32)), (.int (0 : Int32))]) (rest := []) (lenOf pd_11 rfl) rfl (by show 2 * 0 + _ ≤ _; exact Nat.le_of_eq rfl) (hb hby d18_3) (fun _ _ => ⟨rfl, e0, (by decide : 0 + 0 ≤ _), (by decide : 0 + 0 ≤ _)⟩)
  dsimp only [Pt.U, Pt.locs, Pt.cells, Pt.slots] at X1051 l1051 y1051 z1051 st1051 hQ1051
  subst l1051 y1051 z1051
  obtain ⟨rfl, N1051q, e1051⟩ := hQ1051
  have N1051 := Fr.app N0 N1051q
  refine goV (T' := T1051) (g' := (mkF m 6 #[.val (.ref a1), .val (.int (44 : Int32))] [(.int (if x = 44 then (0 : Int32) else -1))])) st1051 ?_
  refine goRetI X1051 hx hlk Bd.returns (hb hby d18_6) ?_ (by decide) (by decide)
  rw [e1051]
  exact ⟨rfl, N1051, rfl⟩
theorem d7_0 : decode prog_116_method_7_code 0 = .ok (.aload_n 0, 1) := by decide +kernel
theorem d7_1 : decode prog_116_method_7_code 1 = .ok (.invokevirtual 7, 3) := by decide +kernel
theorem d7_4 : decode prog_116_method_7_code 4 = .ok (.iload_n 1, 1) := by decide +kernel
theorem d7_5 : decode prog_116_method_7_code 5 = .ok (.if_icmp .ne 23, 3) := by decide +kernel
theorem d7_8 : decode prog_116_method_7_code 8 = .ok (.aload_n 0, 1) := by decide +kernel
theorem d7_9 : decode prog_116_method_7_code 9 = .ok (.invokestatic 31, 3) := by decide +kernel
theorem d7_12 : decode prog_116_method_7_code 12 = .ok (.ifCond .eq 16, 3) := by decide +kernel
theorem d7_15 : decode prog_116_method_7_code 15 = .ok (.aload_n 0, 1) := by decide +kernel
theorem d7_16 : decode prog_116_method_7_code 16 = .ok (.bipush 44, 2) := by decide +kernel
theorem d7_18 : decode prog_116_method_7_code 18 = .ok (.invokevirtual 34, 3) := by decide +kernel
theorem d7_21 : decode prog_116_method_7_code 21 = .ok (.ifCond .ge 7, 3) := by decide +kernel
theorem d7_24 : decode prog_116_method_7_code 24 = .ok (.iconst 1, 1) := by decide +kernel
theorem d7_25 : decode prog_116_method_7_code 25 = .ok (.goto 4, 3) := by decide +kernel
theorem d7_28 : decode prog_116_method_7_code 28 = .ok (.iconst 0, 1) := by decide +kernel
theorem d7_29 : decode prog_116_method_7_code 29 = .ok (.ireturn, 1) := by decide +kernel
theorem pd_13 : parseMethodDescriptor "(Ljava/lang/String;)Z" = some ⟨[(.object "java/lang/String")], some .boolean⟩ := by decide +kernel
theorem pd_14 : parseMethodDescriptor "(I)I" = some ⟨[.int], some .int⟩ := by decide +kernel
theorem ef__iscL (m : MethodId) (a1 : Addr) (p1 : Int32) : entryFrame m #[(.ref a1), (.int p1)] 2 = mkF m 0 #[.val (.ref a1), .val (.int p1)] [] := by first | (simp [entryFrame, mkF, argsToLocals, Value.category]; done) | rfl
def Q_iscL (Z : State) (a1 : Addr) (p1 : Int32) (b1 : Addr) (x : Int32) (cs : Int32) (sf : Value) (h0 : Heap) (n0 : Nat) (v : Option Value) (h : Heap) (L : List Loc) : Prop := v = some (.int (if own_ab (nar .char (own_ch x)) = 0 then (0 : Int32) else if x = 44 then 0 else 1)) ∧ Fr n0 L ∧ h = h0
set_option maxRecDepth 65536 in
set_option maxHeartbeats 40000000 in
theorem rm_iscL (l : Launch) (Z : State) (a0 : Array Value) (hw : ∀ d ∈ tables_1, d.before a0 Z = true) (ws : List Jvm.Cond) (a1 : Addr) (p1 : Int32) (b1 : Addr) (x : Int32) (cs : Int32) (sf : Value) (h0 : Heap) (n0 : Nat) (Z0 : n0 ≤ h0.size) (hp1 : p1 = 1) (O0 : Old Z n0 h0) (S1 : Sta Z Z.heap "java/lang/String" "COMPACT_STRINGS" "Z" (.int cs)) (hcs : ¬ cs = 0) (S2 : Sta Z Z.heap "jdk/internal/util/Preconditions" "SIOOBE_FORMATTER" "Ljava/util/function/BiFunction;" sf) (hsf : sf = .null ∨ ∃ fa, sf = .ref fa) (S3 : Sta Z Z.heap "java/lang/StringUTF16" "$assertionsDisabled" "Z" (.int (1 : Int32))) (S4 : Sta Z Z.heap "java/lang/StringUTF16" "HI_BYTE_SHIFT" "I" (.int (0 : Int32))) (S5 : Sta Z Z.heap "java/lang/StringUTF16" "LO_BYTE_SHIFT" "I" (.int (8 : Int32))) (E1 : Exa Z h0 a1 "java/lang/String") (Fv : Fld Z h0 a1 "java/lang/String" "value" "[B" (.ref b1)) (Fc : Fld Z h0 a1 "java/lang/String" "coder" "B" (.int (0 : Int32))) (V1 : Aw Z h0 b1 .byte (1 : Int32) (fun _ => .int x)) :
    MetFree l (⟨"com/example/tallyward/tallyward/model/Codes", "isCode", "(Ljava/lang/String;I)Z"⟩ : MethodName) (head1 (Jvm.Cond.code (⟨"com/example/tallyward/tallyward/model/Codes", "isCode", "(Ljava/lang/String;I)Z"⟩ : MethodName) prog_116_method_7_code 2 (some .boolean) :: ws) ({ frames := 6, cells := 0, slots := 0, locals := 81 } : Room)) (fun a U => a = #[(.ref a1), (.int p1)] ∧ Z.Warmed39 U.vm ∧ U.heap = h0) (fun _ _ _ _ _ => True) (fun _ U o U' => ∃ v L, o = .returned v ∧ Q_iscL Z a1 p1 b1 x cs sf h0 n0 v U'.heap L ∧ FrameEnd U o U' L ({ frames := 6, cells := 0, slots := 0, locals := 81 } : Room).cells ({ frames := 6, cells := 0, slots := 0, locals := 81 } : Room).slots) := by
  refine MetFree.of_bodySF (plainFor_of_name pn_1) hisR ?_
  intro p e s m args below meth c s₁ Bd hml0 hP hK
  obtain ⟨rfl, hZ, hh⟩ := hP
  have hx := Bd.exec
  have hby := Bd.bytes
  have hlk := Bd.notSynchronized
  have hml : c.maxLocals = 2 := hml0
  have hown : s.vm.findClass "com/example/tallyward/tallyward/model/Codes" = some m.cls := findClass_of_methodNamed Bd.named
  have hnm := (name_of_methodNamed Bd.named Bd.method).1
  have X0 : Stand p l e ({ frames := 6, cells := 0, slots := 0, locals := 81 } : Room) s m #[(.ref a1), (.int p1)] below meth c s₁ [] 0 0 := Stand.of_body Bd
  have e0 : s₁.heap = h0 := by rw [← hh, Bd.state]; rfl
  have N0 := Fr.nil n0
  show Goes p e below s 0 0 (Q_iscL Z a1 p1 b1 x cs sf h0 n0) s₁ (entryFrame m #[(.ref a1), (.int p1)] 2)
  refine goEq (ef__iscL m a1 p1) ?_
  refine goEq (g' := (mkF m 0 #[.val (.ref a1), .val (.int (1 : Int32))] [])) (by rw [hp1]) ?_
  refine go (T' := s₁) (g' := (mkF m 1 #[.val (.ref a1), .val (.int (1 : Int32))] [(.ref a1)])) (fun t kt => XS.aloadN X0.here hx rfl (hb hby d7_0) rfl rfl kt) ?_
  obtain ⟨cq1052, kq1052, q1052a, q1052b, q1052c⟩ := isOf hZ e0 E1
  obtain ⟨_, _, ⟨T1052, L1052, k1052, n1052⟩, -, X1052, ⟨Lc1052, hQ1052, l1052, y1052, z1052⟩, st1052⟩ := X0.virtualBack hx (y := (⟨"java/lang/String", "length", "()I"⟩ : MethodName)) (z := (⟨"java/lang/String", "length", "()I"⟩ : MethodName)) hown (mvT hZ (hw _ (List.mem_of_getElem? (i := 33) rfl))) (mvT hZ (hw _ (List.mem_of_getElem? (i := 34) rfl))) (notFace_of_selects (args := #[]) (mvT hZ (hw _ (List.mem_of_getElem? (i := 36) rfl)))) (mvT hZ (hw _ (List.mem_of_getElem? (i := 36) rfl))) (mvT hZ (hw _ (List.mem_of_getElem? (i := 35) rfl))) (by decide) (backOf (W := 0) (rm_lenL l Z a0 hw [] a1 b1 x cs sf h0 n0 Z0 O0 S1 hcs S2 hsf S3 S4 S5 E1 Fv Fc V1) hZ (hw _ (List.mem_of_getElem? (i := 37) rfl)) (hw _ (List.mem_of_getElem? (i := 6) rfl)) (by decide) (by decide)) q1052a q1052c (g := (mkF m 1 #[.val (.ref a1), .val (.int (1 : Int32))] [(.ref a1)])) rfl (by rw [hml]; rfl) (Steps.refl _) (argsL := []) (rest := []) (lenOf pd_7 rfl) rfl (by show 2 * 0 + _ ≤ _; exact Nat.le_of_eq rfl) (hb hby d7_1) (fun _ _ => ⟨rfl, e0, (by decide : 0 + 0 ≤ _), (by decide : 0 + 0 ≤ _)⟩)
  dsimp only [Pt.U, Pt.locs, Pt.cells, Pt.slots] at X1052 l1052 y1052 z1052 st1052 hQ1052
  subst l1052 y1052 z1052
  obtain ⟨rfl, N1052q, e1052⟩ := hQ1052
  have N1052 := Fr.app N0 N1052q
  refine goV (T' := T1052) (g' := (mkF m 4 #[.val (.ref a1), .val (.int (1 : Int32))] [(.int (1 : Int32))])) st1052 ?_
  refine go (T' := T1052) (g' := (mkF m 5 #[.val (.ref a1), .val (.int (1 : Int32))] [(.int (1 : Int32)), (.int (1 : Int32))])) (fun t kt => XS.iloadN X1052.here hx rfl (hb hby d7_4) rfl kt) ?_
  refine go (T' := T1052) (g' := (mkF m 8 #[.val (.ref a1), .val (.int (1 : Int32))] [])) (fun t kt => XS.icmpNo X1052.here hx rfl (hb hby d7_5) rfl (teq rfl).2 kt) ?_
  refine go (T' := T1052) (g' := (mkF m 9 #[.val (.ref a1), .val (.int (1 : Int32))] [(.ref a1)])) (fun t kt => XS.aloadN X1052.here hx rfl (hb hby d7_8) rfl rfl kt) ?_
  obtain ⟨_, _, ⟨T1053, L1053, k1053, n1053⟩, -, X1053, ⟨Lc1053, hQ1053, l1053, y1053, z1053⟩, st1053⟩ := Jvm.LawKit.callS X1052 hx (y := (⟨"com/example/tallyward/tallyward/model/Codes", "isToken", "(Ljava/lang/String;)Z"⟩ : MethodName)) hown (mvT hZ (hw _ (List.mem_of_getElem? (i := 43) rfl))) (mvT hZ (hw _ (List.mem_of_getElem? (i := 44) rfl))) (mvT hZ (hw _ (List.mem_of_getElem? (i := 2) rfl))) (mvT hZ (hw _ (List.mem_of_getElem? (i := 45) rfl))) (by decide) (backOf (W := 0) (rm_tokL l Z a0 hw [] a1 b1 x cs sf h0 n0 Z0 O0 S1 hcs S2 hsf S3 S4 S5 E1 Fv Fc V1) hZ (hw _ (List.mem_of_getElem? (i := 45) rfl)) (hw _ (List.mem_of_getElem? (i := 2) rfl)) (by decide) (by decide)) (g := (mkF m 9 #[.val (.ref a1), .val (.int (1 : Int32))] [(.ref a1)])) rfl (by rw [hml]; rfl) (argsL := [(.ref a1)]) (rest := []) (lenOf pd_13 rfl) rfl (by show 2 * 0 + _ ≤ _; exact Nat.le_of_eq rfl) (hb hby d7_9) (fun _ _ => ⟨rfl, e1052, (by decide : 0 + 0 ≤ _), (by decide : 0 + 0 ≤ _)⟩)
  dsimp only [Pt.U, Pt.locs, Pt.cells, Pt.slots] at X1053 l1053 y1053 z1053 st1053 hQ1053
  subst l1053 y1053 z1053
  obtain ⟨rfl, N1053q, e1053⟩ := hQ1053
  have N1053 := Fr.app N1052 N1053q
  refine go (T' := T1053) (g' := (mkF m 12 #[.val (.ref a1), .val (.int (1 : Int32))] [(.int (own_ab (nar .char (own_ch x))))])) st1053 ?_
  by_cases hz : (own_ab (nar .char (own_ch x))) = (0 : Int32)
  · refine go (T' := T1053) (g' := (mkF m 28 #[.val (.ref a1), .val (.int (1 : Int32))] [])) (fun t kt => XS.ifYes X1053.here hx rfl (pc0 := 12) (pc' := 28) rfl (hb hby d7_12) rfl ((if0 _ _).trans (teq hz).1) (by decide) (by decide) kt) ?_
    refine go (T' := T1053) (g' := (mkF m 29 #[.val (.ref a1), .val (.int (1 : Int32))] [(.int (0 : Int32))])) (fun t kt => XS.iconst X1053.here hx rfl (hb hby d7_28) kt) ?_
    refine goRetN X1053 hx hlk (t := .boolean) Bd.returns (by simp) (hb hby d7_29) ?_ (by decide) (by decide)
    rw [e1053]
    exact ⟨by rw [if_pos hz]; rfl, N1053, rfl⟩
  · refine go (T' := T1053) (g' := (mkF m 15 #[.val (.ref a1), .val (.int (1 : Int32))] [])) (fun t kt => XS.ifNo X1053.here hx rfl (hb hby d7_12) rfl ((if0 _ _).trans (feq hz).1) kt) ?_
    refine go (T' := T1053) (g' := (mkF m 16 #[.val (.ref a1), .val (.int (1 : Int32))] [(.ref a1)])) (fun t kt => XS.aloadN X1053.here hx rfl (hb hby d7_15) rfl rfl kt) ?_
    refine go (T' := T1053) (g' := (mkF m 18 #[.val (.ref a1), .val (.int (1 : Int32))] [(.int (44 : Int32)), (.ref a1)])) (fun t kt => XS.bipush X1053.here hx rfl (hb hby d7_16) kt) ?_
    obtain ⟨cq1054, kq1054, q1054a, q1054b, q1054c⟩ := isOf hZ e1053 E1
    obtain ⟨_, _, ⟨T1054, L1054, k1054, n1054⟩, -, X1054, ⟨Lc1054, hQ1054, l1054, y1054, z1054⟩, st1054⟩ := X1053.virtualBack hx (y := (⟨"java/lang/String", "indexOf", "(I)I"⟩ : MethodName)) (z := (⟨"java/lang/String", "indexOf", "(I)I"⟩ : MethodName)) hown (mvT hZ (hw _ (List.mem_of_getElem? (i := 75) rfl))) (mvT hZ (hw _ (List.mem_of_getElem? (i := 76) rfl))) (notFace_of_selects (args := #[]) (mvT hZ (hw _ (List.mem_of_getElem? (i := 78) rfl)))) (mvT hZ (hw _ (List.mem_of_getElem? (i := 78) rfl))) (mvT hZ (hw _ (List.mem_of_getElem? (i := 77) rfl))) (by decide) (backOf (W := 0) (rm18 l Z a0 hw [] a1 44 b1 x cs sf h0 n0 Z0 rfl O0 S1 hcs S2 hsf S3 S4 S5 E1 Fv Fc V1) hZ (hw _ (List.mem_of_getElem? (i := 79) rfl)) (hw _ (List.mem_of_getElem? (i := 6) rfl)) (by decide) (by decide)) q1054a q1054c (g := (mkF m 18 #[.val (.ref a1), .val (.int (1 : Int32))] [(.int (44 : Int32)), (.ref a1)])) rfl (by rw [hml]; rfl) (Steps.refl _) (argsL := [(.int (44 : Int32))]) (rest := []) (lenOf pd_14 rfl) rfl (by show 2 * 0 + _ ≤ _; exact Nat.le_of_eq rfl) (hb hby d7_18) (fun _ _ => ⟨rfl, e1053, (by decide : 0 + 0 ≤ _), (by decide : 0 + 0 ≤ _)⟩)
    dsimp only [Pt.U, Pt.locs, Pt.cells, Pt.slots] at X1054 l1054 y1054 z1054 st1054 hQ1054
    subst l1054 y1054 z1054
    obtain ⟨rfl, N1054q, e1054⟩ := hQ1054
    have N1054 := Fr.app N1053 N1054q
    refine goV (T' := T1054) (g' := (mkF m 21 #[.val (.ref a1), .val (.int (1 : Int32))] [(.int (if x = 44 then (0 : Int32) else -1))])) st1054 ?_
    by_cases hx44 : x = 44
    · refine goEq (g' := (mkF m 21 #[.val (.ref a1), .val (.int (1 : Int32))] [(.int (0 : Int32))])) (by rw [if_pos hx44]) ?_
      refine go (T' := T1054) (g' := (mkF m 28 #[.val (.ref a1), .val (.int (1 : Int32))] [])) (fun t kt => XS.ifYes X1054.here hx rfl (pc0 := 21) (pc' := 28) rfl (hb hby d7_21) rfl ((if0 _ _).trans (flt (by decide)).2.1) (by decide) (by decide) kt) ?_
      refine go (T' := T1054) (g' := (mkF m 29 #[.val (.ref a1), .val (.int (1 : Int32))] [(.int (0 : Int32))])) (fun t kt => XS.iconst X1054.here hx rfl (hb hby d7_28) kt) ?_
      refine goRetN X1054 hx hlk (t := .boolean) Bd.returns (by simp) (hb hby d7_29) ?_ (by decide) (by decide)
      rw [e1054]
      exact ⟨by rw [if_neg hz, if_pos hx44]; rfl, N1054, rfl⟩
    · refine goEq (g' := (mkF m 21 #[.val (.ref a1), .val (.int (1 : Int32))] [(.int (-1 : Int32))])) (by rw [if_neg hx44]) ?_
      refine go (T' := T1054) (g' := (mkF m 24 #[.val (.ref a1), .val (.int (1 : Int32))] [])) (fun t kt => XS.ifNo X1054.here hx rfl (hb hby d7_21) rfl ((if0 _ _).trans (tlt (by decide)).2.1) kt) ?_
      refine go (T' := T1054) (g' := (mkF m 25 #[.val (.ref a1), .val (.int (1 : Int32))] [(.int (1 : Int32))])) (fun t kt => XS.iconst X1054.here hx rfl (hb hby d7_24) kt) ?_
      refine go (T' := T1054) (g' := (mkF m 29 #[.val (.ref a1), .val (.int (1 : Int32))] [(.int (1 : Int32))])) (fun t kt => XS.goto X1054.here hx rfl (pc0 := 25) (pc' := 29) rfl (hb hby d7_25) (by decide) (by decide) kt) ?_
      refine goRetN X1054 hx hlk (t := .boolean) Bd.returns (by simp) (hb hby d7_29) ?_ (by decide) (by decide)
      rw [e1054]
      exact ⟨by rw [if_neg hz, if_neg hx44]; rfl, N1054, rfl⟩
theorem ef__iscU (m : MethodId) (a1 : Addr) (p1 : Int32) : entryFrame m #[(.ref a1), (.int p1)] 2 = mkF m 0 #[.val (.ref a1), .val (.int p1)] [] := by first | (simp [entryFrame, mkF, argsToLocals, Value.category]; done) | rfl
def Q_iscU (Z : State) (a1 : Addr) (p1 : Int32) (b1 : Addr) (x : Int32) (y : Int32) (cs : Int32) (sf : Value) (h0 : Heap) (n0 : Nat) (v : Option Value) (h : Heap) (L : List Loc) : Prop := v = some (.int 0) ∧ Fr n0 L ∧ h = h0
set_option maxRecDepth 65536 in
set_option maxHeartbeats 40000000 in
theorem rm_iscU (l : Launch) (Z : State) (a0 : Array Value) (hw : ∀ d ∈ tables_1, d.before a0 Z = true) (ws : List Jvm.Cond) (a1 : Addr) (p1 : Int32) (b1 : Addr) (x : Int32) (y : Int32) (cs : Int32) (sf : Value) (h0 : Heap) (n0 : Nat) (Z0 : n0 ≤ h0.size) (hp1 : p1 = 1) (O0 : Old Z n0 h0) (S1 : Sta Z Z.heap "java/lang/String" "COMPACT_STRINGS" "Z" (.int cs)) (hcs : ¬ cs = 0) (S2 : Sta Z Z.heap "jdk/internal/util/Preconditions" "SIOOBE_FORMATTER" "Ljava/util/function/BiFunction;" sf) (hsf : sf = .null ∨ ∃ fa, sf = .ref fa) (S3 : Sta Z Z.heap "java/lang/StringUTF16" "$assertionsDisabled" "Z" (.int (1 : Int32))) (S4 : Sta Z Z.heap "java/lang/StringUTF16" "HI_BYTE_SHIFT" "I" (.int (0 : Int32))) (S5 : Sta Z Z.heap "java/lang/StringUTF16" "LO_BYTE_SHIFT" "I" (.int (8 : Int32))) (E1 : Exa Z h0 a1 "java/lang/String") (Fv : Fld Z h0 a1 "java/lang/String" "value" "[B" (.ref b1)) (Fc : Fld Z h0 a1 "java/lang/String" "coder" "B" (.int (1 : Int32))) (V1 : Aw Z h0 b1 .byte (2 : Int32) (fun i => .int (if i = 0 then x else y))) (hz : own_ab (nar .char (own_u x y)) = 0) :
    MetFree l (⟨"com/example/tallyward/tallyward/model/Codes", "isCode", "(Ljava/lang/String;I)Z"⟩ : MethodName) (head1 (Jvm.Cond.code (⟨"com/example/tallyward/tallyward/model/Codes", "isCode", "(Ljava/lang/String;I)Z"⟩ : MethodName) prog_116_method_7_code 2 (some .boolean) :: ws) ({ frames := 7, cells := 0, slots := 0, locals := 94 } : Room)) (fun a U => a = #[(.ref a1), (.int p1)] ∧ Z.Warmed39 U.vm ∧ U.heap = h0) (fun _ _ _ _ _ => True) (fun _ U o U' => ∃ v L, o = .returned v ∧ Q_iscU Z a1 p1 b1 x y cs sf h0 n0 v U'.heap L ∧ FrameEnd U o U' L ({ frames := 7, cells := 0, slots := 0, locals := 94 } : Room).cells ({ frames := 7, cells := 0, slots := 0, locals := 94 } : Room).slots) := by
  refine MetFree.of_bodySF (plainFor_of_name pn_1) hisR ?_
  intro p e s m args below meth c s₁ Bd hml0 hP hK
  obtain ⟨rfl, hZ, hh⟩ := hP
  have hx := Bd.exec
  have hby := Bd.bytes
  have hlk := Bd.notSynchronized
  have hml : c.maxLocals = 2 := hml0
  have hown : s.vm.findClass "com/example/tallyward/tallyward/model/Codes" = some m.cls := findClass_of_methodNamed Bd.named
  have hnm := (name_of_methodNamed Bd.named Bd.method).1
  have X0 : Stand p l e ({ frames := 7, cells := 0, slots := 0, locals := 94 } : Room) s m #[(.ref a1), (.int p1)] below meth c s₁ [] 0 0 := Stand.of_body Bd
  have e0 : s₁.heap = h0 := by rw [← hh, Bd.state]; rfl
  have N0 := Fr.nil n0
  show Goes p e below s 0 0 (Q_iscU Z a1 p1 b1 x y cs sf h0 n0) s₁ (entryFrame m #[(.ref a1), (.int p1)] 2)
  refine goEq (ef__iscU m a1 p1) ?_
  refine goEq (g' := (mkF m 0 #[.val (.ref a1), .val (.int (1 : Int32))] [])) (by rw [hp1]) ?_
  refine go (T' := s₁) (g' := (mkF m 1 #[.val (.ref a1), .val (.int (1 : Int32))] [(.ref a1)])) (fun t kt => XS.aloadN X0.here hx rfl (hb hby d7_0) rfl rfl kt) ?_
  obtain ⟨cq1055, kq1055, q1055a, q1055b, q1055c⟩ := isOf hZ e0 E1
  obtain ⟨_, _, ⟨T1055, L1055, k1055, n1055⟩, -, X1055, ⟨Lc1055, hQ1055, l1055, y1055, z1055⟩, st1055⟩ := X0.virtualBack hx (y := (⟨"java/lang/String", "length", "()I"⟩ : MethodName)) (z := (⟨"java/lang/String", "length", "()I"⟩ : MethodName)) hown (mvT hZ (hw _ (List.mem_of_getElem? (i := 33) rfl))) (mvT hZ (hw _ (List.mem_of_getElem? (i := 34) rfl))) (notFace_of_selects (args := #[]) (mvT hZ (hw _ (List.mem_of_getElem? (i := 36) rfl)))) (mvT hZ (hw _ (List.mem_of_getElem? (i := 36) rfl))) (mvT hZ (hw _ (List.mem_of_getElem? (i := 35) rfl))) (by decide) (backOf (W := 0) (rm_lenU l Z a0 hw [] a1 b1 x y cs sf h0 n0 Z0 O0 S1 hcs S2 hsf S3 S4 S5 E1 Fv Fc V1) hZ (hw _ (List.mem_of_getElem? (i := 37) rfl)) (hw _ (List.mem_of_getElem? (i := 6) rfl)) (by decide) (by decide)) q1055a q1055c (g := (mkF m 1 #[.val (.ref a1), .val (.int (1 : Int32))] [(.ref a1)])) rfl (by rw [hml]; rfl) (Steps.refl _) (argsL := []) (rest := []) (lenOf pd_7 rfl) rfl (by show 2 * 0 + _ ≤ _; exact Nat.le_of_eq rfl) (hb hby d7_1) (fun _ _ => ⟨rfl, e0, (by decide : 0 + 0 ≤ _), (by decide : 0 + 0 ≤ _)⟩)
  dsimp only [Pt.U, Pt.locs, Pt.cells, Pt.slots] at X1055 l1055 y1055 z1055 st1055 hQ1055
  subst l1055 y1055 z1055
  obtain ⟨rfl, N1055q, e1055⟩ := hQ1055
  have N1055 := Fr.app N0 N1055q
  refine goV (T' := T1055) (g' := (mkF m 4 #[.val (.ref a1), .val (.int (1 : Int32))] [(.int (1 : Int32))])) st1055 ?_
  refine go (T' := T1055) (g' := (mkF m 5 #[.val (.ref a1), .val (.int (1 : Int32))] [(.int (1 : Int32)), (.int (1 : Int32))])) (fun t kt => XS.iloadN X1055.here hx rfl (hb hby d7_4) rfl kt) ?_
  refine go (T' := T1055) (g' := (mkF m 8 #[.val (.ref a1), .val (.int (1 : Int32))] [])) (fun t kt => XS.icmpNo X1055.here hx rfl (hb hby d7_5) rfl (teq rfl).2 kt) ?_
  refine go (T' := T1055) (g' := (mkF m 9 #[.val (.ref a1), .val (.int (1 : Int32))] [(.ref a1)])) (fun t kt => XS.aloadN X1055.here hx rfl (hb hby d7_8) rfl rfl kt) ?_
  obtain ⟨_, _, ⟨T1056, L1056, k1056, n1056⟩, -, X1056, ⟨Lc1056, hQ1056, l1056, y1056, z1056⟩, st1056⟩ := Jvm.LawKit.callS X1055 hx (y := (⟨"com/example/tallyward/tallyward/model/Codes", "isToken", "(Ljava/lang/String;)Z"⟩ : MethodName)) hown (mvT hZ (hw _ (List.mem_of_getElem? (i := 43) rfl))) (mvT hZ (hw _ (List.mem_of_getElem? (i := 44) rfl))) (mvT hZ (hw _ (List.mem_of_getElem? (i := 2) rfl))) (mvT hZ (hw _ (List.mem_of_getElem? (i := 45) rfl))) (by decide) (backOf (W := 0) (rm_tokU l Z a0 hw [] a1 b1 x y cs sf h0 n0 Z0 O0 S1 hcs S2 hsf S3 S4 S5 E1 Fv Fc V1) hZ (hw _ (List.mem_of_getElem? (i := 45) rfl)) (hw _ (List.mem_of_getElem? (i := 2) rfl)) (by decide) (by decide)) (g := (mkF m 9 #[.val (.ref a1), .val (.int (1 : Int32))] [(.ref a1)])) rfl (by rw [hml]; rfl) (argsL := [(.ref a1)]) (rest := []) (lenOf pd_13 rfl) rfl (by show 2 * 0 + _ ≤ _; exact Nat.le_of_eq rfl) (hb hby d7_9) (fun _ _ => ⟨rfl, e1055, (by decide : 0 + 0 ≤ _), (by decide : 0 + 0 ≤ _)⟩)
  dsimp only [Pt.U, Pt.locs, Pt.cells, Pt.slots] at X1056 l1056 y1056 z1056 st1056 hQ1056
  subst l1056 y1056 z1056
  obtain ⟨rfl, N1056q, e1056⟩ := hQ1056
  have N1056 := Fr.app N1055 N1056q
  refine go (T' := T1056) (g' := (mkF m 12 #[.val (.ref a1), .val (.int (1 : Int32))] [(.int (own_ab (nar .char (own_u x y))))])) st1056 ?_
  refine go (T' := T1056) (g' := (mkF m 28 #[.val (.ref a1), .val (.int (1 : Int32))] [])) (fun t kt => XS.ifYes X1056.here hx rfl (pc0 := 12) (pc' := 28) rfl (hb hby d7_12) rfl ((if0 _ _).trans (teq hz).1) (by decide) (by decide) kt) ?_
  refine go (T' := T1056) (g' := (mkF m 29 #[.val (.ref a1), .val (.int (1 : Int32))] [(.int (0 : Int32))])) (fun t kt => XS.iconst X1056.here hx rfl (hb hby d7_28) kt) ?_
  refine goRetN X1056 hx hlk (t := .boolean) Bd.returns (by simp) (hb hby d7_29) ?_ (by decide) (by decide)
  rw [e1056]
  exact ⟨rfl, N1056, rfl⟩
theorem d4_0 : decode jdk_43_method_46_code 0 = .ok (.iconst 1, 1) := by decide +kernel
theorem d4_1 : decode jdk_43_method_46_code 1 = .ok (.newarray .byte, 2) := by decide +kernel
theorem d4_3 : decode jdk_43_method_46_code 3 = .ok (.dup, 1) := by decide +kernel
theorem d4_4 : decode jdk_43_method_46_code 4 = .ok (.iconst 0, 1) := by decide +kernel
theorem d4_5 : decode jdk_43_method_46_code 5 = .ok (.iload_n 0, 1) := by decide +kernel
theorem d4_6 : decode jdk_43_method_46_code 6 = .ok (.i2b, 1) := by decide +kernel
theorem d4_7 : decode jdk_43_method_46_code 7 = .ok (.bastore, 1) := by decide +kernel
theorem d4_8 : decode jdk_43_method_46_code 8 = .ok (.areturn, 1) := by decide +kernel
theorem ef_4 (m : MethodId) (p1 : Int32) : entryFrame m #[(.int p1)] 1 = mkF m 0 #[.val (.int p1)] [] := by first | (simp [entryFrame, mkF, argsToLocals, Value.category]; done) | rfl
def Q4 (Z : State) (p1 : Int32) (h0 : Heap) (n0 : Nat) (v : Option Value) (h : Heap) (L : List Loc) : Prop := ∃ b, v = some (.ref b) ∧ n0 ≤ b ∧ Fr n0 L ∧ Keep h0 h [] ∧ h0.size ≤ b ∧ Aw Z h b .byte 1 (fun _ => .int (own_b1 p1))
set_option maxRecDepth 65536 in
set_option maxHeartbeats 40000000 in
theorem rm4 (l : Launch) (Z : State) (a0 : Array Value) (hw : ∀ d ∈ tables_1, d.before a0 Z = true) (ws : List Jvm.Cond) (p1 : Int32) (h0 : Heap) (n0 : Nat) (Z0 : n0 ≤ h0.size)  :
    MetFree l (⟨"java/lang/StringLatin1", "toBytes", "(C)[B"⟩ : MethodName) (head1 (Jvm.Cond.code (⟨"java/lang/StringLatin1", "toBytes", "(C)[B"⟩ : MethodName) jdk_43_method_46_code 1 (some (.array .byte)) :: ws) ({ frames := 0, cells := 1, slots := 1, locals := 0 } : Room)) (fun a U => a = #[(.int p1)] ∧ Z.Warmed39 U.vm ∧ U.heap = h0) (fun _ _ _ _ _ => True) (fun _ U o U' => ∃ v L, o = .returned v ∧ Q4 Z p1 h0 n0 v U'.heap L ∧ FrameEnd U o U' L ({ frames := 0, cells := 1, slots := 1, locals := 0 } : Room).cells ({ frames := 0, cells := 1, slots := 1, locals := 0 } : Room).slots) := by
  refine MetFree.of_bodySF (plainFor_of_name pn_3) hisR ?_
  intro p e s m args below meth c s₁ Bd hml0 hP hK
  obtain ⟨rfl, hZ, hh⟩ := hP
  have hx := Bd.exec
  have hby := Bd.bytes
  have hlk := Bd.notSynchronized
  have hml : c.maxLocals = 1 := hml0
  have hown : s.vm.findClass "java/lang/StringLatin1" = some m.cls := findClass_of_methodNamed Bd.named
  have hnm := (name_of_methodNamed Bd.named Bd.method).1
  have X0 : Stand p l e ({ frames := 0, cells := 1, slots := 1, locals := 0 } : Room) s m #[(.int p1)] below meth c s₁ [] 0 0 := Stand.of_body Bd
  have e0 : s₁.heap = h0 := by rw [← hh, Bd.state]; rfl
  have N0 := Fr.nil n0
  show Goes p e below s 1 1 (Q4 Z p1 h0 n0) s₁ (entryFrame m #[(.int p1)] 1)
  refine goEq (ef_4 m p1) ?_
  refine go (T' := s₁) (g' := (mkF m 1 #[.val (.int p1)] [(.int (1 : Int32))])) (fun t kt => XS.iconst X0.here hx rfl (hb hby d4_0) kt) ?_
  obtain ⟨T1057, h1057, kc1057, X1057, e1057, E1057, A1057, st1057⟩ := newP X0 hx hZ (hw _ (List.mem_of_getElem? (i := 18) rfl)) e0 (g := (mkF m 1 #[.val (.int p1)] [(.int (1 : Int32))])) rfl (hb hby d4_1) rfl (by decide) (cap := 1) (by decide) (by decide) (by decide) (by decide)
  obtain ⟨bt, g1057⟩ : ∃ z, z = h0.size := ⟨_, rfl⟩
  rw [← g1057] at A1057 st1057
  have g_bt : n0 ≤ bt := Nat.le_trans Z0 (Nat.le_of_eq g1057.symm)
  have o_bt : h0.size ≤ bt := Nat.le_trans (Keep.refl h0 []).1 (Nat.le_of_eq g1057.symm)
  have z1057 : n0 ≤ h1057.size := Nat.le_trans Z0 E1057.1
  have K1057 : Keep h0 h1057 [] := (Keep.refl h0 []).ext E1057
  have V_bt : Aw Z h1057 bt .byte (1 : Int32) (fun _ => defaultValue .byte) := Aw.new A1057 (by decide)
  refine go (T' := T1057) (g' := (mkF m 3 #[.val (.int p1)] [(.ref bt)])) st1057 ?_
  refine go (T' := T1057) (g' := (mkF m 4 #[.val (.int p1)] [(.ref bt), (.ref bt)])) (fun t kt => XS.dup X1057.here hx rfl (hb hby d4_3) rfl rfl kt) ?_
  refine go (T' := T1057) (g' := (mkF m 5 #[.val (.int p1)] [(.int (0 : Int32)), (.ref bt), (.ref bt)])) (fun t kt => XS.iconst X1057.here hx rfl (hb hby d4_4) kt) ?_
  refine go (T' := T1057) (g' := (mkF m 6 #[.val (.int p1)] [(.int p1), (.int (0 : Int32)), (.ref bt), (.ref bt)])) (fun t kt => XS.iloadN X1057.here hx rfl (hb hby d4_5) rfl kt) ?_
  refine go (T' := T1057) (g' := (mkF m 7 #[.val (.int p1)] [(.int (p1.toInt8.toInt32)), (.int (0 : Int32)), (.ref bt), (.ref bt)])) (fun t kt => XS.i2b X1057.here hx rfl (hb hby d4_6) rfl kt) ?_
  obtain ⟨T1058, h1058, X1058, e1058, W1058, V1058, st1058⟩ := own_stB X1057 hx hZ e1057 V_bt (j := (0 : Int32)) ⟨by decide, by decide⟩ (g := (mkF m 7 #[.val (.int p1)] [(.int (p1.toInt8.toInt32)), (.int (0 : Int32)), (.ref bt), (.ref bt)])) rfl rfl (hb hby d4_7)
  have z1058 : n0 ≤ h1058.size := Nat.le_trans z1057 (Keep.of_wr W1058).1
  have K1058 : Keep h0 h1058 [] := K1057.wr W1058 (Or.inr o_bt)
  have N1058 := Fr.snoc X1058 N0 g_bt
  refine go (T' := T1058) (g' := (mkF m 8 #[.val (.int p1)] [(.ref bt)])) st1058 ?_
  have Vt : Aw Z h1058 bt .byte 1 (fun _ => .int (own_b1 p1)) := V1058.congr (fun i hi => by
    have hi : i < 1 := hi
    obtain rfl : i = 0 := by omega
    rfl)
  refine goRetA X1058 hx hlk Bd.returns rfl rfl rfl (hb hby d4_8) ?_ (by decide) (by decide)
  rw [e1058]
  exact ⟨bt, rfl, g_bt, N1058, K1058, o_bt, Vt⟩
theorem d26_0 : decode jdk_52_method_4_code 0 = .ok (.getstatic 44, 3) := by decide +kernel
theorem d26_3 : decode jdk_52_method_4_code 3 = .ok (.ifCond .ne 25, 3) := by decide +kernel
theorem d26_6 : decode jdk_52_method_4_code 6 = .ok (.iload_n 1, 1) := by decide +kernel
theorem d26_7 : decode jdk_52_method_4_code 7 = .ok (.ifCond .lt 11, 3) := by decide +kernel
theorem d26_10 : decode jdk_52_method_4_code 10 = .ok (.iload_n 1, 1) := by decide +kernel
theorem d26_11 : decode jdk_52_method_4_code 11 = .ok (.aload_n 0, 1) := by decide +kernel
theorem d26_12 : decode jdk_52_method_4_code 12 = .ok (.invokestatic 48, 3) := by decide +kernel
theorem d26_15 : decode jdk_52_method_4_code 15 = .ok (.if_icmp .lt 13, 3) := by decide +kernel
theorem d26_18 : decode jdk_52_method_4_code 18 = .ok (.new 52, 3) := by decide +kernel
theorem d26_21 : decode jdk_52_method_4_code 21 = .ok (.dup, 1) := by decide +kernel
theorem d26_22 : decode jdk_52_method_4_code 22 = .ok (.ldc 54, 2) := by decide +kernel
theorem d26_24 : decode jdk_52_method_4_code 24 = .ok (.invokespecial 56, 3) := by decide +kernel
theorem d26_27 : decode jdk_52_method_4_code 27 = .ok (.athrow, 1) := by decide +kernel
theorem d26_28 : decode jdk_52_method_4_code 28 = .ok (.iload_n 1, 1) := by decide +kernel
theorem d26_29 : decode jdk_52_method_4_code 29 = .ok (.iconst 1, 1) := by decide +kernel
theorem d26_30 : decode jdk_52_method_4_code 30 = .ok (.ishl, 1) := by decide +kernel
theorem d26_31 : decode jdk_52_method_4_code 31 = .ok (.istore_n 1, 1) := by decide +kernel
theorem d26_32 : decode jdk_52_method_4_code 32 = .ok (.aload_n 0, 1) := by decide +kernel
theorem d26_33 : decode jdk_52_method_4_code 33 = .ok (.iload_n 1, 1) := by decide +kernel
theorem d26_34 : decode jdk_52_method_4_code 34 = .ok (.iinc 1 1, 3) := by decide +kernel
theorem d26_37 : decode jdk_52_method_4_code 37 = .ok (.iload_n 2, 1) := by decide +kernel
theorem d26_38 : decode jdk_52_method_4_code 38 = .ok (.getstatic 59, 3) := by decide +kernel
theorem d26_41 : decode jdk_52_method_4_code 41 = .ok (.ishr, 1) := by decide +kernel
theorem d26_42 : decode jdk_52_method_4_code 42 = .ok (.i2b, 1) := by decide +kernel
theorem d26_43 : decode jdk_52_method_4_code 43 = .ok (.bastore, 1) := by decide +kernel
theorem d26_44 : decode jdk_52_method_4_code 44 = .ok (.aload_n 0, 1) := by decide +kernel
theorem d26_45 : decode jdk_52_method_4_code 45 = .ok (.iload_n 1, 1) := by decide +kernel
theorem d26_46 : decode jdk_52_method_4_code 46 = .ok (.iload_n 2, 1) := by decide +kernel
theorem d26_47 : decode jdk_52_method_4_code 47 = .ok (.getstatic 63, 3) := by decide +kernel
theorem d26_50 : decode jdk_52_method_4_code 50 = .ok (.ishr, 1) := by decide +kernel
theorem d26_51 : decode jdk_52_method_4_code 51 = .ok (.i2b, 1) := by decide +kernel
theorem d26_52 : decode jdk_52_method_4_code 52 = .ok (.bastore, 1) := by decide +kernel
theorem d26_53 : decode jdk_52_method_4_code 53 = .ok (.return_, 1) := by decide +kernel
theorem ef_26 (m : MethodId) (b1 : Addr) (p1 : Int32) (p2 : Int32) : entryFrame m #[(.ref b1), (.int p1), (.int p2)] 3 = mkF m 0 #[.val (.ref b1), .val (.int p1), .val (.int p2)] [] := by first | (simp [entryFrame, mkF, argsToLocals, Value.category]; done) | rfl
def Q26 (Z : State) (b1 : Addr) (p1 : Int32) (p2 : Int32) (f : Nat → Value) (cs : Int32) (sf : Value) (h0 : Heap) (n0 : Nat) (v : Option Value) (h : Heap) (L : List Loc) : Prop := v = none ∧ Fr n0 L ∧ Keep h0 h [b1] ∧ Aw Z h b1 .byte 2 (fun i => .int (if i = 0 then ((p2 >>> ((0 : Int32) &&& 31)).toInt8.toInt32).toInt8.toInt32 else ((p2 >>> ((8 : Int32) &&& 31)).toInt8.toInt32).toInt8.toInt32))
set_option maxRecDepth 65536 in
set_option maxHeartbeats 40000000 in
theorem rm26 (l : Launch) (Z : State) (a0 : Array Value) (hw : ∀ d ∈ tables_1, d.before a0 Z = true) (ws : List Jvm.Cond) (b1 : Addr) (p1 : Int32) (p2 : Int32) (f : Nat → Value) (cs : Int32) (sf : Value) (h0 : Heap) (n0 : Nat) (Z0 : n0 ≤ h0.size) (O0 : Old Z n0 h0) (S1 : Sta Z Z.heap "java/lang/String" "COMPACT_STRINGS" "Z" (.int cs)) (hcs : ¬ cs = 0) (S2 : Sta Z Z.heap "jdk/internal/util/Preconditions" "SIOOBE_FORMATTER" "Ljava/util/function/BiFunction;" sf) (hsf : sf = .null ∨ ∃ fa, sf = .ref fa) (S3 : Sta Z Z.heap "java/lang/StringUTF16" "$assertionsDisabled" "Z" (.int (1 : Int32))) (S4 : Sta Z Z.heap "java/lang/StringUTF16" "HI_BYTE_SHIFT" "I" (.int (0 : Int32))) (S5 : Sta Z Z.heap "java/lang/StringUTF16" "LO_BYTE_SHIFT" "I" (.int (8 : Int32))) (hp1 : p1 = 0) (g_b1 : n0 ≤ b1) (V1 : Aw Z h0 b1 .byte 2 f) :
    MetFree l (⟨"java/lang/StringUTF16", "putChar", "([BII)V"⟩ : MethodName) (head1 (Jvm.Cond.code (⟨"java/lang/StringUTF16", "putChar", "([BII)V"⟩ : MethodName) jdk_52_method_4_code 3 none :: ws) ({ frames := 0, cells := 0, slots := 0, locals := 0 } : Room)) (fun a U => a = #[(.ref b1), (.int p1), (.int p2)] ∧ Z.Warmed39 U.vm ∧ U.heap = h0) (fun _ _ _ _ _ => True) (fun _ U o U' => ∃ v L, o = .returned v ∧ Q26 Z b1 p1 p2 f cs sf h0 n0 v U'.heap L ∧ FrameEnd U o U' L ({ frames := 0, cells := 0, slots := 0, locals := 0 } : Room).cells ({ frames := 0, cells := 0, slots := 0, locals := 0 } : Room).slots) := by
  refine MetFree.of_bodySF (plainFor_of_name pn_29) hisR ?_
  intro p e s m args below meth c s₁ Bd hml0 hP hK
  obtain ⟨rfl, hZ, hh⟩ := hP
  have hx := Bd.exec
  have hby := Bd.bytes
  have hlk := Bd.notSynchronized
  have hml : c.maxLocals = 3 := hml0
  have hown : s.vm.findClass "java/lang/StringUTF16" = some m.cls := findClass_of_methodNamed Bd.named
  have hnm := (name_of_methodNamed Bd.named Bd.method).1
  have X0 : Stand p l e ({ frames := 0, cells := 0, slots := 0, locals := 0 } : Room) s m #[(.ref b1), (.int p1), (.int p2)] below meth c s₁ [] 0 0 := Stand.of_body Bd
  have e0 : s₁.heap = h0 := by rw [← hh, Bd.state]; rfl
  have N0 := Fr.nil n0
  show Goes p e below s 0 0 (Q26 Z b1 p1 p2 f cs sf h0 n0) s₁ (entryFrame m #[(.ref b1), (.int p1), (.int p2)] 3)
  refine goEq (ef_26 m b1 p1 p2) ?_
  refine goEq (g' := (mkF m 0 #[.val (.ref b1), .val (.int (0 : Int32)), .val (.int p2)] [])) (by rw [hp1]) ?_
  obtain ⟨T1059, X1059, e1059, st1059⟩ := getS2 X0 hx hZ hown (host := "") (Or.inl (hw _ (List.mem_of_getElem? (i := 110) rfl))) Via.refl e0 (S3.ext O0.2) (g := (mkF m 0 #[.val (.ref b1), .val (.int (0 : Int32)), .val (.int p2)] [])) rfl (hb hby d26_0)
  refine go (T' := T1059) (g' := (mkF m 3 #[.val (.ref b1), .val (.int (0 : Int32)), .val (.int p2)] [(.int (1 : Int32))])) st1059 ?_
  refine go (T' := T1059) (g' := (mkF m 28 #[.val (.ref b1), .val (.int (0 : Int32)), .val (.int p2)] [])) (fun t kt => XS.ifYes X1059.here hx rfl (pc0 := 3) (pc' := 28) rfl (hb hby d26_3) rfl ((if0 _ _).trans (feq (by decide)).2) (by decide) (by decide) kt) ?_
  refine go (T' := T1059) (g' := (mkF m 29 #[.val (.ref b1), .val (.int (0 : Int32)), .val (.int p2)] [(.int (0 : Int32))])) (fun t kt => XS.iloadN X1059.here hx rfl (hb hby d26_28) rfl kt) ?_
  refine go (T' := T1059) (g' := (mkF m 30 #[.val (.ref b1), .val (.int (0 : Int32)), .val (.int p2)] [(.int (1 : Int32)), (.int (0 : Int32))])) (fun t kt => XS.iconst X1059.here hx rfl (hb hby d26_29) kt) ?_
  refine go (T' := T1059) (g' := (mkF m 31 #[.val (.ref b1), .val (.int (0 : Int32)), .val (.int p2)] [(.int ((0 : Int32) <<< ((1 : Int32) &&& 31)))])) (fun t kt => XS.ishl X1059.here hx rfl (hb hby d26_30) rfl kt) ?_
  refine goEq (g' := (mkF m 31 #[.val (.ref b1), .val (.int (0 : Int32)), .val (.int p2)] [(.int (0 : Int32))])) (rfl) ?_
  refine go (T' := T1059) (g' := (mkF m 32 #[.val (.ref b1), .val (.int (0 : Int32)), .val (.int p2)] [])) (fun t kt => XS.istoreN X1059.here hx rfl (hb hby d26_31) rfl (l' := #[.val (.ref b1), .val (.int (0 : Int32)), .val (.int p2)]) rfl kt) ?_
  refine go (T' := T1059) (g' := (mkF m 33 #[.val (.ref b1), .val (.int (0 : Int32)), .val (.int p2)] [(.ref b1)])) (fun t kt => XS.aloadN X1059.here hx rfl (hb hby d26_32) rfl rfl kt) ?_
  refine go (T' := T1059) (g' := (mkF m 34 #[.val (.ref b1), .val (.int (0 : Int32)), .val (.int p2)] [(.int (0 : Int32)), (.ref b1)])) (fun t kt => XS.iloadN X1059.here hx rfl (hb hby d26_33) rfl kt) ?_
  refine go (T' := T1059) (g' := (mkF m 37 #[.val (.ref b1), .val (.int ((0 : Int32) + (1 : Int32))), .val (.int p2)] [(.int (0 : Int32)), (.ref b1)])) (fun t kt => XS.iinc X1059.here hx rfl (hb hby d26_34) rfl (l' := #[.val (.ref b1), .val (.int ((0 : Int32) + (1 : Int32))), .val (.int p2)]) rfl kt) ?_
  refine goEq (g' := (mkF m 37 #[.val (.ref b1), .val (.int (1 : Int32)), .val (.int p2)] [(.int (0 : Int32)), (.ref b1)])) (rfl) ?_
  refine go (T' := T1059) (g' := (mkF m 38 #[.val (.ref b1), .val (.int (1 : Int32)), .val (.int p2)] [(.int p2), (.int (0 : Int32)), (.ref b1)])) (fun t kt => XS.iloadN X1059.here hx rfl (hb hby d26_37) rfl kt) ?_
  obtain ⟨T1060, X1060, e1060, st1060⟩ := getS2 X1059 hx hZ hown (host := "") (Or.inl (hw _ (List.mem_of_getElem? (i := 111) rfl))) Via.refl e1059 (S4.ext O0.2) (g := (mkF m 38 #[.val (.ref b1), .val (.int (1 : Int32)), .val (.int p2)] [(.int p2), (.int (0 : Int32)), (.ref b1)])) rfl (hb hby d26_38)
  refine go (T' := T1060) (g' := (mkF m 41 #[.val (.ref b1), .val (.int (1 : Int32)), .val (.int p2)] [(.int (0 : Int32)), (.int p2), (.int (0 : Int32)), (.ref b1)])) st1060 ?_
  refine go (T' := T1060) (g' := (mkF m 42 #[.val (.ref b1), .val (.int (1 : Int32)), .val (.int p2)] [(.int (p2 >>> ((0 : Int32) &&& 31))), (.int (0 : Int32)), (.ref b1)])) (fun t kt => XS.ishr X1060.here hx rfl (hb hby d26_41) rfl kt) ?_
  refine go (T' := T1060) (g' := (mkF m 43 #[.val (.ref b1), .val (.int (1 : Int32)), .val (.int p2)] [(.int ((p2 >>> ((0 : Int32) &&& 31)).toInt8.toInt32)), (.int (0 : Int32)), (.ref b1)])) (fun t kt => XS.i2b X1060.here hx rfl (hb hby d26_42) rfl kt) ?_
  obtain ⟨T1061, h1061, X1061, e1061, W1061, V1061, st1061⟩ := own_stB X1060 hx hZ e1060 V1 (j := (0 : Int32)) ⟨by decide, by decide⟩ (g := (mkF m 43 #[.val (.ref b1), .val (.int (1 : Int32)), .val (.int p2)] [(.int ((p2 >>> ((0 : Int32) &&& 31)).toInt8.toInt32)), (.int (0 : Int32)), (.ref b1)])) rfl rfl (hb hby d26_43)
  have z1061 : n0 ≤ h1061.size := Nat.le_trans Z0 (Keep.of_wr W1061).1
  have fO__1061 : Old Z n0 h1061 := O0.wr W1061 g_b1
  have K1061 : Keep h0 h1061 [b1] := (Keep.refl h0 [b1]).wr W1061 (Or.inl (List.mem_of_getElem? (i := 0) rfl))
  have N1061 := Fr.snoc X1061 N0 g_b1
  refine go (T' := T1061) (g' := (mkF m 44 #[.val (.ref b1), .val (.int (1 : Int32)), .val (.int p2)] [])) st1061 ?_
  refine go (T' := T1061) (g' := (mkF m 45 #[.val (.ref b1), .val (.int (1 : Int32)), .val (.int p2)] [(.ref b1)])) (fun t kt => XS.aloadN X1061.here hx rfl (hb hby d26_44) rfl rfl kt) ?_
  refine go (T' := T1061) (g' := (mkF m 46 #[.val (.ref b1), .val (.int (1 : Int32)), .val (.int p2)] [(.int (1 : Int32)), (.ref b1)])) (fun t kt => XS.iloadN X1061.here hx rfl (hb hby d26_45) rfl kt) ?_
  refine go (T' := T1061) (g' := (mkF m 47 #[.val (.ref b1), .val (.int (1 : Int32)), .val (.int p2)] [(.int p2), (.int (1 : Int32)), (.ref b1)])) (fun t kt => XS.iloadN X1061.here hx rfl (hb hby d26_46) rfl kt) ?_
  obtain ⟨T1062, X1062, e1062, st1062⟩ := getS2 X1061 hx hZ hown (host := "") (Or.inl (hw _ (List.mem_of_getElem? (i := 112) rfl))) Via.refl e1061 (S5.ext fO__1061.2) (g := (mkF m 47 #[.val (.ref b1), .val (.int (1 : Int32)), .val (.int p2)] [(.int p2), (.int (1 : Int32)), (.ref b1)])) rfl (hb hby d26_47)
  refine go (T' := T1062) (g' := (mkF m 50 #[.val (.ref b1), .val (.int (1 : Int32)), .val (.int p2)] [(.int (8 : Int32)), (.int p2), (.int (1 : Int32)), (.ref b1)])) st1062 ?_
  refine go (T' := T1062) (g' := (mkF m 51 #[.val (.ref b1), .val (.int (1 : Int32)), .val (.int p2)] [(.int (p2 >>> ((8 : Int32) &&& 31))), (.int (1 : Int32)), (.ref b1)])) (fun t kt => XS.ishr X1062.here hx rfl (hb hby d26_50) rfl kt) ?_
  refine go (T' := T1062) (g' := (mkF m 52 #[.val (.ref b1), .val (.int (1 : Int32)), .val (.int p2)] [(.int ((p2 >>> ((8 : Int32) &&& 31)).toInt8.toInt32)), (.int (1 : Int32)), (.ref b1)])) (fun t kt => XS.i2b X1062.here hx rfl (hb hby d26_51) rfl kt) ?_
  obtain ⟨T1063, h1063, X1063, e1063, W1063, V1063, st1063⟩ := own_stB X1062 hx hZ e1062 V1061 (j := (1 : Int32)) ⟨by decide, by decide⟩ (g := (mkF m 52 #[.val (.ref b1), .val (.int (1 : Int32)), .val (.int p2)] [(.int ((p2 >>> ((8 : Int32) &&& 31)).toInt8.toInt32)), (.int (1 : Int32)), (.ref b1)])) rfl rfl (hb hby d26_52)
  have z1063 : n0 ≤ h1063.size := Nat.le_trans z1061 (Keep.of_wr W1063).1
  have fO__1063 : Old Z n0 h1063 := fO__1061.wr W1063 g_b1
  have K1063 : Keep h0 h1063 [b1] := K1061.wr W1063 (Or.inl (List.mem_of_getElem? (i := 0) rfl))
  have N1063 := Fr.snoc X1063 N1061 g_b1
  refine go (T' := T1063) (g' := (mkF m 53 #[.val (.ref b1), .val (.int (1 : Int32)), .val (.int p2)] [])) st1063 ?_
  refine goRetV X1063 hx hlk Bd.returns (hb hby d26_53) ?_ (by decide) (by decide)
  rw [e1063]
  exact ⟨rfl, N1063, K1063, V1063.congr (fun i hi => by
    have hi : i < 2 := hi
    have hc : i = 0 ∨ i = 1 := by omega
    rcases hc with rfl | rfl <;> rfl)⟩
theorem d25_0 : decode jdk_52_method_24_code 0 = .ok (.iconst 2, 1) := by decide +kernel
theorem d25_1 : decode jdk_52_method_24_code 1 = .ok (.newarray .byte, 2) := by decide +kernel
theorem d25_3 : decode jdk_52_method_24_code 3 = .ok (.astore_n 1, 1) := by decide +kernel
theorem d25_4 : decode jdk_52_method_24_code 4 = .ok (.aload_n 1, 1) := by decide +kernel
theorem d25_5 : decode jdk_52_method_24_code 5 = .ok (.iconst 0, 1) := by decide +kernel
theorem d25_6 : decode jdk_52_method_24_code 6 = .ok (.iload_n 0, 1) := by decide +kernel
theorem d25_7 : decode jdk_52_method_24_code 7 = .ok (.invokestatic 111, 3) := by decide +kernel
theorem d25_10 : decode jdk_52_method_24_code 10 = .ok (.aload_n 1, 1) := by decide +kernel
theorem d25_11 : decode jdk_52_method_24_code 11 = .ok (.areturn, 1) := by decide +kernel
theorem pd_15 : parseMethodDescriptor "([BII)V" = some ⟨[(.array .byte), .int, .int], none⟩ := by decide +kernel
theorem ef_25 (m : MethodId) (p1 : Int32) : entryFrame m #[(.int p1)] 2 = mkF m 0 #[.val (.int p1), .unset] [] := by first | (simp [entryFrame, mkF, argsToLocals, Value.category]; done) | rfl
def Q25 (Z : State) (p1 : Int32) (cs : Int32) (sf : Value) (h0 : Heap) (n0 : Nat) (v : Option Value) (h : Heap) (L : List Loc) : Prop := ∃ b, v = some (.ref b) ∧ n0 ≤ b ∧ Fr n0 L ∧ Keep h0 h [] ∧ h0.size ≤ b ∧ Aw Z h b .byte 2 (fun i => .int (if i = 0 then ((p1 >>> ((0 : Int32) &&& 31)).toInt8.toInt32).toInt8.toInt32 else ((p1 >>> ((8 : Int32) &&& 31)).toInt8.toInt32).toInt8.toInt32))
set_option maxRecDepth 65536 in
set_option maxHeartbeats 40000000 in
theorem rm25 (l : Launch) (Z : State) (a0 : Array Value) (hw : ∀ d ∈ tables_1, d.before a0 Z = true) (ws : List Jvm.Cond) (p1 : Int32) (cs : Int32) (sf : Value) (h0 : Heap) (n0 : Nat) (Z0 : n0 ≤ h0.size) (O0 : Old Z n0 h0) (S1 : Sta Z Z.heap "java/lang/String" "COMPACT_STRINGS" "Z" (.int cs)) (hcs : ¬ cs = 0) (S2 : Sta Z Z.heap "jdk/internal/util/Preconditions" "SIOOBE_FORMATTER" "Ljava/util/function/BiFunction;" sf) (hsf : sf = .null ∨ ∃ fa, sf = .ref fa) (S3 : Sta Z Z.heap "java/lang/StringUTF16" "$assertionsDisabled" "Z" (.int (1 : Int32))) (S4 : Sta Z Z.heap "java/lang/StringUTF16" "HI_BYTE_SHIFT" "I" (.int (0 : Int32))) (S5 : Sta Z Z.heap "java/lang/StringUTF16" "LO_BYTE_SHIFT" "I" (.int (8 : Int32))) :
    MetFree l (⟨"java/lang/StringUTF16", "toBytes", "(C)[B"⟩ : MethodName) (head1 (Jvm.Cond.code (⟨"java/lang/StringUTF16", "toBytes", "(C)[B"⟩ : MethodName) jdk_52_method_24_code 2 (some (.array .byte)) :: ws) ({ frames := 1, cells := 1, slots := 2, locals := 14 } : Room)) (fun a U => a = #[(.int p1)] ∧ Z.Warmed39 U.vm ∧ U.heap = h0) (fun _ _ _ _ _ => True) (fun _ U o U' => ∃ v L, o = .returned v ∧ Q25 Z p1 cs sf h0 n0 v U'.heap L ∧ FrameEnd U o U' L ({ frames := 1, cells := 1, slots := 2, locals := 14 } : Room).cells ({ frames := 1, cells := 1, slots := 2, locals := 14 } : Room).slots) := by
  refine MetFree.of_bodySF (plainFor_of_name pn_29) hisR ?_
  intro p e s m args below meth c s₁ Bd hml0 hP hK
  obtain ⟨rfl, hZ, hh⟩ := hP
  have hx := Bd.exec
  have hby := Bd.bytes
  have hlk := Bd.notSynchronized
  have hml : c.maxLocals = 2 := hml0
  have hown : s.vm.findClass "java/lang/StringUTF16" = some m.cls := findClass_of_methodNamed Bd.named
  have hnm := (name_of_methodNamed Bd.named Bd.method).1
  have X0 : Stand p l e ({ frames := 1, cells := 1, slots := 2, locals := 14 } : Room) s m #[(.int p1)] below meth c s₁ [] 0 0 := Stand.of_body Bd
  have e0 : s₁.heap = h0 := by rw [← hh, Bd.state]; rfl
  have N0 := Fr.nil n0
  show Goes p e below s 1 2 (Q25 Z p1 cs sf h0 n0) s₁ (entryFrame m #[(.int p1)] 2)
  refine goEq (ef_25 m p1) ?_
  refine go (T' := s₁) (g' := (mkF m 1 #[.val (.int p1), .unset] [(.int (2 : Int32))])) (fun t kt => XS.iconst X0.here hx rfl (hb hby d25_0) kt) ?_
  obtain ⟨T1064, h1064, kc1064, X1064, e1064, E1064, A1064, st1064⟩ := newP X0 hx hZ (hw _ (List.mem_of_getElem? (i := 18) rfl)) e0 (g := (mkF m 1 #[.val (.int p1), .unset] [(.int (2 : Int32))])) rfl (hb hby d25_1) rfl (by decide) (cap := 2) (by decide) (by decide) (by decide) (by decide)
  obtain ⟨bt, g1064⟩ : ∃ z, z = h0.size := ⟨_, rfl⟩
  rw [← g1064] at A1064 st1064
  have g_bt : n0 ≤ bt := Nat.le_trans Z0 (Nat.le_of_eq g1064.symm)
  have o_bt : h0.size ≤ bt := Nat.le_trans (Keep.refl h0 []).1 (Nat.le_of_eq g1064.symm)
  have z1064 : n0 ≤ h1064.size := Nat.le_trans Z0 E1064.1
  have fO__1064 : Old Z n0 h1064 := O0.ext E1064
  have K1064 : Keep h0 h1064 [] := (Keep.refl h0 []).ext E1064
  have V_bt : Aw Z h1064 bt .byte (2 : Int32) (fun _ => defaultValue .byte) := Aw.new A1064 (by decide)
  refine go (T' := T1064) (g' := (mkF m 3 #[.val (.int p1), .unset] [(.ref bt)])) st1064 ?_
  refine go (T' := T1064) (g' := (mkF m 4 #[.val (.int p1), .val (.ref bt)] [])) (fun t kt => XS.astoreN X1064.here hx rfl (hb hby d25_3) rfl rfl (l' := #[.val (.int p1), .val (.ref bt)]) rfl kt) ?_
  refine go (T' := T1064) (g' := (mkF m 5 #[.val (.int p1), .val (.ref bt)] [(.ref bt)])) (fun t kt => XS.aloadN X1064.here hx rfl (hb hby d25_4) rfl rfl kt) ?_
  refine go (T' := T1064) (g' := (mkF m 6 #[.val (.int p1), .val (.ref bt)] [(.int (0 : Int32)), (.ref bt)])) (fun t kt => XS.iconst X1064.here hx rfl (hb hby d25_5) kt) ?_
  refine go (T' := T1064) (g' := (mkF m 7 #[.val (.int p1), .val (.ref bt)] [(.int p1), (.int (0 : Int32)), (.ref bt)])) (fun t kt => XS.iloadN X1064.here hx rfl (hb hby d25_6) rfl kt) ?_
  obtain ⟨_, _, ⟨T1065, L1065, k1065, n1065⟩, -, X1065, ⟨Lc1065, hQ1065, l1065, y1065, z1065⟩, st1065⟩ := Jvm.LawKit.callS X1064 hx (y := (⟨"java/lang/StringUTF16", "putChar", "([BII)V"⟩ : MethodName)) hown (mvT hZ (hw _ (List.mem_of_getElem? (i := 107) rfl))) (mvT hZ (hw _ (List.mem_of_getElem? (i := 108) rfl))) (mvT hZ (hw _ (List.mem_of_getElem? (i := 105) rfl))) (mvT hZ (hw _ (List.mem_of_getElem? (i := 109) rfl))) (by decide) (backOf (W := 0) (rm26 l Z a0 hw [] bt 0 p1 (fun _ => defaultValue .byte) cs sf h1064 n0 z1064 fO__1064 S1 hcs S2 hsf S3 S4 S5 rfl g_bt V_bt) hZ (hw _ (List.mem_of_getElem? (i := 109) rfl)) (hw _ (List.mem_of_getElem? (i := 105) rfl)) (by decide) (by decide)) (g := (mkF m 7 #[.val (.int p1), .val (.ref bt)] [(.int p1), (.int (0 : Int32)), (.ref bt)])) rfl (by rw [hml]; rfl) (argsL := [(.ref bt), (.int (0 : Int32)), (.int p1)]) (rest := []) (lenOf pd_15 rfl) rfl (by show 2 * 0 + _ ≤ _; exact Nat.le_of_eq rfl) (hb hby d25_7) (fun _ _ => ⟨rfl, e1064, (by decide : 1 + 0 ≤ _), (by decide : 2 + 0 ≤ _)⟩)
  dsimp only [Pt.U, Pt.locs, Pt.cells, Pt.slots] at X1065 l1065 y1065 z1065 st1065 hQ1065
  subst l1065 y1065 z1065
  obtain ⟨rfl, N1065q, K1065, V1065⟩ := hQ1065
  have N1065 := Fr.app N0 N1065q
  refine go (T' := T1065) (g' := (mkF m 10 #[.val (.int p1), .val (.ref bt)] [])) st1065 ?_
  have z1065 : n0 ≤ T1065.heap.size := Nat.le_trans z1064 K1065.1
  have fO__1065 : Old Z n0 T1065.heap := fO__1064.keep K1065 (allS g_bt all0)
  have KK1065 : Keep h0 T1065.heap [] := K1064.trans K1065 (allS (Or.inr o_bt) all0)
  refine go (T' := T1065) (g' := (mkF m 11 #[.val (.int p1), .val (.ref bt)] [(.ref bt)])) (fun t kt => XS.aloadN X1065.here hx rfl (hb hby d25_10) rfl rfl kt) ?_
  refine goRetA X1065 hx hlk Bd.returns rfl rfl rfl (hb hby d25_11) ?_ (by decide) (by decide)
  exact ⟨bt, rfl, g_bt, N1065, KK1065, o_bt, V1065⟩
theorem d5_0 : decode jdk_42_method_151_code 0 = .ok (.aload_n 0, 1) := by decide +kernel
theorem d5_1 : decode jdk_42_method_151_code 1 = .ok (.invokespecial 1, 3) := by decide +kernel
theorem d5_4 : decode jdk_42_method_151_code 4 = .ok (.aload_n 0, 1) := by decide +kernel
theorem d5_5 : decode jdk_42_method_151_code 5 = .ok (.aload_n 1, 1) := by decide +kernel
theorem d5_6 : decode jdk_42_method_151_code 6 = .ok (.putfield 9, 3) := by decide +kernel
theorem d5_9 : decode jdk_42_method_151_code 9 = .ok (.aload_n 0, 1) := by decide +kernel
theorem d5_10 : decode jdk_42_method_151_code 10 = .ok (.iload_n 2, 1) := by decide +kernel
theorem d5_11 : decode jdk_42_method_151_code 11 = .ok (.putfield 15, 3) := by decide +kernel
theorem d5_14 : decode jdk_42_method_151_code 14 = .ok (.return_, 1) := by decide +kernel
theorem ef_5 (m : MethodId) (a1 : Addr) (b1 : Addr) (p1 : Int32) : entryFrame m #[(.ref a1), (.ref b1), (.int p1)] 3 = mkF m 0 #[.val (.ref a1), .val (.ref b1), .val (.int p1)] [] := by first | (simp [entryFrame, mkF, argsToLocals, Value.category]; done) | rfl
def Q5 (Z : State) (a1 : Addr) (b1 : Addr) (p1 : Int32) (h0 : Heap) (n0 : Nat) (v : Option Value) (h : Heap) (L : List Loc) : Prop := v = none ∧ Fr n0 L ∧ Keep h0 h [a1] ∧ Fld Z h a1 "java/lang/String" "value" "[B" (.ref b1) ∧ Fld Z h a1 "java/lang/String" "coder" "B" (.int (nar .byte p1))
set_option maxRecDepth 65536 in
set_option maxHeartbeats 40000000 in
theorem rm5 (l : Launch) (Z : State) (a0 : Array Value) (hw : ∀ d ∈ tables_1, d.before a0 Z = true) (ws : List Jvm.Cond) (a1 : Addr) (b1 : Addr) (p1 : Int32) (h0 : Heap) (n0 : Nat) (Z0 : n0 ≤ h0.size) (g_a1 : n0 ≤ a1) (E1 : Exa Z h0 a1 "java/lang/String") (Fv : Fld Z h0 a1 "java/lang/String" "value" "[B" .null) (Fc : Fld Z h0 a1 "java/lang/String" "coder" "B" (.int (0 : Int32))) :
    MetFree l (⟨"java/lang/String", "<init>", "([BB)V"⟩ : MethodName) (head1 (Jvm.Cond.code (⟨"java/lang/String", "<init>", "([BB)V"⟩ : MethodName) jdk_42_method_151_code 3 none :: ws) ({ frames := 1, cells := 0, slots := 0, locals := 12 } : Room)) (fun a U => a = #[(.ref a1), (.ref b1), (.int p1)] ∧ Z.Warmed39 U.vm ∧ U.heap = h0) (fun _ _ _ _ _ => True) (fun _ U o U' => ∃ v L, o = .returned v ∧ Q5 Z a1 b1 p1 h0 n0 v U'.heap L ∧ FrameEnd U o U' L ({ frames := 1, cells := 0, slots := 0, locals := 12 } : Room).cells ({ frames := 1, cells := 0, slots := 0, locals := 12 } : Room).slots) := by
  refine MetFree.of_bodySF (plainFor_of_name pn_16) hisR ?_
  intro p e s m args below meth c s₁ Bd hml0 hP hK
  obtain ⟨rfl, hZ, hh⟩ := hP
  have hx := Bd.exec
  have hby := Bd.bytes
  have hlk := Bd.notSynchronized
  have hml : c.maxLocals = 3 := hml0
  have hown : s.vm.findClass "java/lang/String" = some m.cls := findClass_of_methodNamed Bd.named
  have hnm := (name_of_methodNamed Bd.named Bd.method).1
  have X0 : Stand p l e ({ frames := 1, cells := 0, slots := 0, locals := 12 } : Room) s m #[(.ref a1), (.ref b1), (.int p1)] below meth c s₁ [] 0 0 := Stand.of_body Bd
  have e0 : s₁.heap = h0 := by rw [← hh, Bd.state]; rfl
  have N0 := Fr.nil n0
  show Goes p e below s 0 0 (Q5 Z a1 b1 p1 h0 n0) s₁ (entryFrame m #[(.ref a1), (.ref b1), (.int p1)] 3)
  refine goEq (ef_5 m a1 b1 p1) ?_
  refine go (T' := s₁) (g' := (mkF m 1 #[.val (.ref a1), .val (.ref b1), .val (.int p1)] [(.ref a1)])) (fun t kt => XS.aloadN X0.here hx rfl (hb hby d5_0) rfl rfl kt) ?_
  obtain ⟨T1066, X1066, e1066, st1066⟩ := initO X0 hx hZ hown (hw _ (List.mem_of_getElem? (i := 23) rfl)) (hw _ (List.mem_of_getElem? (i := 24) rfl)) (hw _ (List.mem_of_getElem? (i := 25) rfl)) e0 (g := (mkF m 1 #[.val (.ref a1), .val (.ref b1), .val (.int p1)] [(.ref a1)])) rfl (by rw [hml]; rfl) rfl (hb hby d5_1) (by decide) (W := 0) (by show 2 * 0 + _ ≤ _; exact Nat.le_of_eq rfl) (by decide)
  refine go (T' := T1066) (g' := (mkF m 4 #[.val (.ref a1), .val (.ref b1), .val (.int p1)] [])) st1066 ?_
  refine go (T' := T1066) (g' := (mkF m 5 #[.val (.ref a1), .val (.ref b1), .val (.int p1)] [(.ref a1)])) (fun t kt => XS.aloadN X1066.here hx rfl (hb hby d5_4) rfl rfl kt) ?_
  refine go (T' := T1066) (g' := (mkF m 6 #[.val (.ref a1), .val (.ref b1), .val (.int p1)] [(.ref b1), (.ref a1)])) (fun t kt => XS.aloadN X1066.here hx rfl (hb hby d5_5) rfl rfl kt) ?_
  obtain ⟨T1067, h1067, X1067, e1067, W1067, st1067⟩ := putF X1066 hx hZ hown (host := "") (Or.inl (hw _ (List.mem_of_getElem? (i := 26) rfl))) Via.refl e1066 Fv E1 (Or.inr ⟨(hw _ (List.mem_of_getElem? (i := 27) rfl)), rfl, hnm⟩) (hw _ (List.mem_of_getElem? (i := 14) rfl)) (ty := (.array .byte)) (by decide) rfl rfl (g := (mkF m 6 #[.val (.ref a1), .val (.ref b1), .val (.int p1)] [(.ref b1), (.ref a1)])) rfl rfl (hb hby d5_6)
  have z1067 : n0 ≤ h1067.size := Nat.le_trans Z0 (Keep.of_wr W1067).1
  have fE_a1_1067 : Exa Z h1067 a1 "java/lang/String" := E1.wr W1067
  have fF_a1_coder_1067 : Fld Z h1067 a1 "java/lang/String" "coder" "B" (.int (0 : Int32)) := Fc.other W1067 (Or.inr (slot_ne (Or.inr (hw _ (List.mem_of_getElem? (i := 29) rfl))) (Or.inr (hw _ (List.mem_of_getElem? (i := 27) rfl))) (by decide) (t := .byte) (t' := (.array .byte)) (by decide) (by decide)))
  have Fw1067 : Fld Z h1067 a1 "java/lang/String" "value" "[B" (.ref b1) := Fv.same W1067
  have K1067 : Keep h0 h1067 [a1] := (Keep.refl h0 [a1]).wr W1067 (Or.inl (List.mem_of_getElem? (i := 0) rfl))
  have N1067 := Fr.snoc X1067 N0 g_a1
  refine go (T' := T1067) (g' := (mkF m 9 #[.val (.ref a1), .val (.ref b1), .val (.int p1)] [])) st1067 ?_
  refine go (T' := T1067) (g' := (mkF m 10 #[.val (.ref a1), .val (.ref b1), .val (.int p1)] [(.ref a1)])) (fun t kt => XS.aloadN X1067.here hx rfl (hb hby d5_9) rfl rfl kt) ?_
  refine go (T' := T1067) (g' := (mkF m 11 #[.val (.ref a1), .val (.ref b1), .val (.int p1)] [(.int p1), (.ref a1)])) (fun t kt => XS.iloadN X1067.here hx rfl (hb hby d5_10) rfl kt) ?_
  obtain ⟨T1068, h1068, X1068, e1068, W1068, st1068⟩ := putFN X1067 hx hZ hown (hw _ (List.mem_of_getElem? (i := 28) rfl)) Via.refl e1067 fF_a1_coder_1067 fE_a1_1067 (Or.inr ⟨(hw _ (List.mem_of_getElem? (i := 29) rfl)), rfl, hnm⟩) (hw _ (List.mem_of_getElem? (i := 14) rfl)) (ty := .byte) (v' := (.int (nar .byte p1))) (by decide) rfl (fits_nar_byte _) (g := (mkF m 11 #[.val (.ref a1), .val (.ref b1), .val (.int p1)] [(.int p1), (.ref a1)])) rfl rfl (hb hby d5_11)
  have z1068 : n0 ≤ h1068.size := Nat.le_trans z1067 (Keep.of_wr W1068).1
  have fE_a1_1068 : Exa Z h1068 a1 "java/lang/String" := fE_a1_1067.wr W1068
  have fF_a1_value_1068 : Fld Z h1068 a1 "java/lang/String" "value" "[B" (.ref b1) := Fw1067.other W1068 (Or.inr (slot_ne (Or.inr (hw _ (List.mem_of_getElem? (i := 27) rfl))) (Or.inr (hw _ (List.mem_of_getElem? (i := 29) rfl))) (by decide) (t := (.array .byte)) (t' := .byte) (by decide) (by decide)))
  have Fw1068 : Fld Z h1068 a1 "java/lang/String" "coder" "B" (.int (nar .byte p1)) := fF_a1_coder_1067.same W1068
  have K1068 : Keep h0 h1068 [a1] := K1067.wr W1068 (Or.inl (List.mem_of_getElem? (i := 0) rfl))
  have N1068 := Fr.snoc X1068 N1067 g_a1
  refine go (T' := T1068) (g' := (mkF m 14 #[.val (.ref a1), .val (.ref b1), .val (.int p1)] [])) st1068 ?_
  refine goRetV X1068 hx hlk Bd.returns (hb hby d5_14) ?_ (by decide) (by decide)
  rw [e1068]
  exact ⟨rfl, N1068, K1068, fF_a1_value_1068, Fw1068⟩
theorem d2_0 : decode jdk_42_method_139_code 0 = .ok (.getstatic 38, 3) := by decide +kernel
theorem d2_3 : decode jdk_42_method_139_code 3 = .ok (.ifCond .eq 23, 3) := by decide +kernel
theorem d2_6 : decode jdk_42_method_139_code 6 = .ok (.iload_n 0, 1) := by decide +kernel
theorem d2_7 : decode jdk_42_method_139_code 7 = .ok (.invokestatic 1015, 3) := by decide +kernel
theorem d2_10 : decode jdk_42_method_139_code 10 = .ok (.ifCond .eq 16, 3) := by decide +kernel
theorem d2_13 : decode jdk_42_method_139_code 13 = .ok (.new 10, 3) := by decide +kernel
theorem d2_16 : decode jdk_42_method_139_code 16 = .ok (.dup, 1) := by decide +kernel
theorem d2_17 : decode jdk_42_method_139_code 17 = .ok (.iload_n 0, 1) := by decide +kernel
theorem d2_18 : decode jdk_42_method_139_code 18 = .ok (.invokestatic 1018, 3) := by decide +kernel
theorem d2_21 : decode jdk_42_method_139_code 21 = .ok (.iconst 0, 1) := by decide +kernel
theorem d2_22 : decode jdk_42_method_139_code 22 = .ok (.invokespecial 209, 3) := by decide +kernel
theorem d2_25 : decode jdk_42_method_139_code 25 = .ok (.areturn, 1) := by decide +kernel
theorem d2_26 : decode jdk_42_method_139_code 26 = .ok (.new 10, 3) := by decide +kernel
theorem d2_29 : decode jdk_42_method_139_code 29 = .ok (.dup, 1) := by decide +kernel
theorem d2_30 : decode jdk_42_method_139_code 30 = .ok (.iload_n 0, 1) := by decide +kernel
theorem d2_31 : decode jdk_42_method_139_code 31 = .ok (.invokestatic 1021, 3) := by decide +kernel
theorem d2_34 : decode jdk_42_method_139_code 34 = .ok (.iconst 1, 1) := by decide +kernel
theorem d2_35 : decode jdk_42_method_139_code 35 = .ok (.invokespecial 209, 3) := by decide +kernel
theorem d2_38 : decode jdk_42_method_139_code 38 = .ok (.areturn, 1) := by decide +kernel
theorem pd_16 : parseMethodDescriptor "(C)Z" = some ⟨[.char], some .boolean⟩ := by decide +kernel
theorem pd_17 : parseMethodDescriptor "(C)[B" = some ⟨[.char], some (.array .byte)⟩ := by decide +kernel
theorem pd_18 : parseMethodDescriptor "([BB)V" = some ⟨[(.array .byte), .byte], none⟩ := by decide +kernel
theorem ef__valL (m : MethodId) (p1 : Int32) : entryFrame m #[(.int p1)] 1 = mkF m 0 #[.val (.int p1)] [] := by first | (simp [entryFrame, mkF, argsToLocals, Value.category]; done) | rfl
def Q_valL (Z : State) (p1 : Int32) (cs : Int32) (sf : Value) (h0 : Heap) (n0 : Nat) (v : Option Value) (h : Heap) (L : List Loc) : Prop := ∃ a b, v = some (.ref a) ∧ Fr n0 L ∧ Keep h0 h [] ∧ Old Z n0 h ∧ Exa Z h a "java/lang/String" ∧ Fld Z h a "java/lang/String" "value" "[B" (.ref b) ∧ Fld Z h a "java/lang/String" "coder" "B" (.int (0 : Int32)) ∧ Aw Z h b .byte (1 : Int32) (fun _ => .int (own_b1 p1))
set_option maxRecDepth 65536 in
set_option maxHeartbeats 40000000 in
theorem rm_valL (l : Launch) (Z : State) (a0 : Array Value) (hw : ∀ d ∈ tables_1, d.before a0 Z = true) (ws : List Jvm.Cond) (p1 : Int32) (cs : Int32) (sf : Value) (h0 : Heap) (n0 : Nat) (Z0 : n0 ≤ h0.size) (O0 : Old Z n0 h0) (S1 : Sta Z Z.heap "java/lang/String" "COMPACT_STRINGS" "Z" (.int cs)) (hcs : ¬ cs = 0) (S2 : Sta Z Z.heap "jdk/internal/util/Preconditions" "SIOOBE_FORMATTER" "Ljava/util/function/BiFunction;" sf) (hsf : sf = .null ∨ ∃ fa, sf = .ref fa) (S3 : Sta Z Z.heap "java/lang/StringUTF16" "$assertionsDisabled" "Z" (.int (1 : Int32))) (S4 : Sta Z Z.heap "java/lang/StringUTF16" "HI_BYTE_SHIFT" "I" (.int (0 : Int32))) (S5 : Sta Z Z.heap "java/lang/StringUTF16" "LO_BYTE_SHIFT" "I" (.int (8 : Int32))) (hk : ¬ (255 < p1)) :
    MetFree l (⟨"java/lang/String", "valueOf", "(C)Ljava/lang/String;"⟩ : MethodName) (head1 (Jvm.Cond.code (⟨"java/lang/String", "valueOf", "(C)Ljava/lang/String;"⟩ : MethodName) jdk_42_method_139_code 1 (some (.object "java/lang/String")) :: ws) ({ frames := 2, cells := 2, slots := 5, locals := 27 } : Room)) (fun a U => a = #[(.int p1)] ∧ Z.Warmed39 U.vm ∧ U.heap = h0) (fun _ _ _ _ _ => True) (fun _ U o U' => ∃ v L, o = .returned v ∧ Q_valL Z p1 cs sf h0 n0 v U'.heap L ∧ FrameEnd U o U' L ({ frames := 2, cells := 2, slots := 5, locals := 27 } : Room).cells ({ frames := 2, cells := 2, slots := 5, locals := 27 } : Room).slots) := by
  refine MetFree.of_bodySF (plainFor_of_name pn_16) hisR ?_
  intro p e s m args below meth c s₁ Bd hml0 hP hK
  obtain ⟨rfl, hZ, hh⟩ := hP
  have hx := Bd.exec
  have hby := Bd.bytes
  have hlk := Bd.notSynchronized
  have hml : c.maxLocals = 1 := hml0
  have hown : s.vm.findClass "java/lang/String" = some m.cls := findClass_of_methodNamed Bd.named
  have hnm := (name_of_methodNamed Bd.named Bd.method).1
  have X0 : Stand p l e ({ frames := 2, cells := 2, slots := 5, locals := 27 } : Room) s m #[(.int p1)] below meth c s₁ [] 0 0 := Stand.of_body Bd
  have e0 : s₁.heap = h0 := by rw [← hh, Bd.state]; rfl
  have N0 := Fr.nil n0
  show Goes p e below s 2 5 (Q_valL Z p1 cs sf h0 n0) s₁ (entryFrame m #[(.int p1)] 1)
  refine goEq (ef__valL m p1) ?_
  obtain ⟨T1069, X1069, e1069, st1069⟩ := getS2 X0 hx hZ hown (host := "") (Or.inl (hw _ (List.mem_of_getElem? (i := 8) rfl))) Via.refl e0 (S1.ext O0.2) (g := (mkF m 0 #[.val (.int p1)] [])) rfl (hb hby d2_0)
  refine go (T' := T1069) (g' := (mkF m 3 #[.val (.int p1)] [(.int cs)])) st1069 ?_
  refine go (T' := T1069) (g' := (mkF m 6 #[.val (.int p1)] [])) (fun t kt => XS.ifNo X1069.here hx rfl (hb hby d2_3) rfl ((if0 _ _).trans (feq hcs).1) kt) ?_
  refine go (T' := T1069) (g' := (mkF m 7 #[.val (.int p1)] [(.int p1)])) (fun t kt => XS.iloadN X1069.here hx rfl (hb hby d2_6) rfl kt) ?_
  obtain ⟨_, _, ⟨T1070, L1070, k1070, n1070⟩, -, X1070, ⟨Lc1070, hQ1070, l1070, y1070, z1070⟩, st1070⟩ := Jvm.LawKit.callS X1069 hx (y := (⟨"java/lang/StringLatin1", "canEncode", "(C)Z"⟩ : MethodName)) hown (mvT hZ (hw _ (List.mem_of_getElem? (i := 9) rfl))) (mvT hZ (hw _ (List.mem_of_getElem? (i := 10) rfl))) (mvT hZ (hw _ (List.mem_of_getElem? (i := 11) rfl))) (mvT hZ (hw _ (List.mem_of_getElem? (i := 12) rfl))) (by decide) (backOf (W := 0) (rm3 l Z a0 hw [] p1 h0 n0 Z0) hZ (hw _ (List.mem_of_getElem? (i := 12) rfl)) (hw _ (List.mem_of_getElem? (i := 11) rfl)) (by decide) (by decide)) (g := (mkF m 7 #[.val (.int p1)] [(.int p1)])) rfl (by rw [hml]; rfl) (argsL := [(.int p1)]) (rest := []) (lenOf pd_16 rfl) rfl (by show 2 * 0 + _ ≤ _; exact Nat.le_of_eq rfl) (hb hby d2_7) (fun _ _ => ⟨rfl, e1069, (by decide : 0 + 0 ≤ _), (by decide : 0 + 0 ≤ _)⟩)
  dsimp only [Pt.U, Pt.locs, Pt.cells, Pt.slots] at X1070 l1070 y1070 z1070 st1070 hQ1070
  subst l1070 y1070 z1070
  obtain ⟨rfl, N1070q, e1070⟩ := hQ1070
  have N1070 := Fr.app N0 N1070q
  refine go (T' := T1070) (g' := (mkF m 10 #[.val (.int p1)] [(.int (if 255 < p1 then (0 : Int32) else 1))])) st1070 ?_
  refine goEq (g' := (mkF m 10 #[.val (.int p1)] [(.int (1 : Int32))])) (by rw [if_neg hk]) ?_
  refine go (T' := T1070) (g' := (mkF m 13 #[.val (.int p1)] [])) (fun t kt => XS.ifNo X1070.here hx rfl (hb hby d2_10) rfl ((if0 _ _).trans (feq (by decide)).1) kt) ?_
  obtain ⟨T1071, h1071, X1071, e1071, E1071, A1071, D1071, -, st1071⟩ := newO X1070 hx hZ hown (hw _ (List.mem_of_getElem? (i := 13) rfl)) (hw _ (List.mem_of_getElem? (i := 14) rfl)) (hw _ (List.mem_of_getElem? (i := 6) rfl)) e1070 (g := (mkF m 13 #[.val (.int p1)] [])) rfl (hb hby d2_13) (by decide) (by decide)
  obtain ⟨ba, g1071⟩ : ∃ z, z = h0.size := ⟨_, rfl⟩
  rw [← g1071] at A1071 D1071 st1071
  have g_ba : n0 ≤ ba := Nat.le_trans Z0 (Nat.le_of_eq g1071.symm)
  have o_ba : h0.size ≤ ba := Nat.le_trans (Keep.refl h0 []).1 (Nat.le_of_eq g1071.symm)
  have z1071 : n0 ≤ h1071.size := Nat.le_trans Z0 E1071.1
  have fO__1071 : Old Z n0 h1071 := O0.ext E1071
  have K1071 : Keep h0 h1071 [] := (Keep.refl h0 []).ext E1071
  have F_value_ba : Fld Z h1071 ba "java/lang/String" "value" "[B" .null := D1071 (Or.inr (hw _ (List.mem_of_getElem? (i := 27) rfl))) (ty := (.array .byte)) (by decide)
  have F_coder_ba : Fld Z h1071 ba "java/lang/String" "coder" "B" (.int (0 : Int32)) := D1071 (Or.inr (hw _ (List.mem_of_getElem? (i := 29) rfl))) (ty := .byte) (by decide)
  refine go (T' := T1071) (g' := (mkF m 16 #[.val (.int p1)] [(.ref ba)])) st1071 ?_
  refine go (T' := T1071) (g' := (mkF m 17 #[.val (.int p1)] [(.ref ba), (.ref ba)])) (fun t kt => XS.dup X1071.here hx rfl (hb hby d2_16) rfl rfl kt) ?_
  refine go (T' := T1071) (g' := (mkF m 18 #[.val (.int p1)] [(.int p1), (.ref ba), (.ref ba)])) (fun t kt => XS.iloadN X1071.here hx rfl (hb hby d2_17) rfl kt) ?_
  obtain ⟨_, _, ⟨T1072, L1072, k1072, n1072⟩, -, X1072, ⟨Lc1072, hQ1072, l1072, y1072, z1072⟩, st1072⟩ := Jvm.LawKit.callS X1071 hx (y := (⟨"java/lang/StringLatin1", "toBytes", "(C)[B"⟩ : MethodName)) hown (mvT hZ (hw _ (List.mem_of_getElem? (i := 15) rfl))) (mvT hZ (hw _ (List.mem_of_getElem? (i := 16) rfl))) (mvT hZ (hw _ (List.mem_of_getElem? (i := 11) rfl))) (mvT hZ (hw _ (List.mem_of_getElem? (i := 17) rfl))) (by decide) (backOf (W := 2) (rm4 l Z a0 hw [] p1 h1071 n0 z1071) hZ (hw _ (List.mem_of_getElem? (i := 17) rfl)) (hw _ (List.mem_of_getElem? (i := 11) rfl)) (by decide) (by decide)) (g := (mkF m 18 #[.val (.int p1)] [(.int p1), (.ref ba), (.ref ba)])) rfl (by rw [hml]; rfl) (argsL := [(.int p1)]) (rest := [(.ref ba), (.ref ba)]) (lenOf pd_17 rfl) rfl (by show 2 * 0 + _ ≤ _; exact Nat.le_of_eq rfl) (hb hby d2_18) (fun _ _ => ⟨rfl, e1071, (by decide : 1 + 1 ≤ _), (by decide : 4 + 1 ≤ _)⟩)
  dsimp only [Pt.U, Pt.locs, Pt.cells, Pt.slots] at X1072 l1072 y1072 z1072 st1072 hQ1072
  subst l1072 y1072 z1072
  obtain ⟨bt, rfl, g_bt, N1072q, K1072, ob1072, V1072⟩ := hQ1072
  have N1072 := Fr.app N1070 N1072q
  refine go (T' := T1072) (g' := (mkF m 21 #[.val (.int p1)] [(.ref bt), (.ref ba), (.ref ba)])) st1072 ?_
  have ne_ba_bt : ba ≠ bt := Nat.ne_of_lt (Nat.lt_of_lt_of_le A1071.lt ob1072)
  have z1072 : n0 ≤ T1072.heap.size := Nat.le_trans z1071 K1072.1
  have fO__1072 : Old Z n0 T1072.heap := fO__1071.keep K1072 all0
  have fE_ba_1072 : Exa Z T1072.heap ba "java/lang/String" := A1071.keep K1072
  have fF_ba_value_1072 : Fld Z T1072.heap ba "java/lang/String" "value" "[B" .null := F_value_ba.keep K1072 nin0
  have fF_ba_coder_1072 : Fld Z T1072.heap ba "java/lang/String" "coder" "B" (.int (0 : Int32)) := F_coder_ba.keep K1072 nin0
  have KK1072 : Keep h0 T1072.heap [] := K1071.trans K1072 all0
  refine go (T' := T1072) (g' := (mkF m 22 #[.val (.int p1)] [(.int (0 : Int32)), (.ref bt), (.ref ba), (.ref ba)])) (fun t kt => XS.iconst X1072.here hx rfl (hb hby d2_21) kt) ?_
  obtain ⟨_, _, ⟨T1073, L1073, k1073, n1073⟩, -, X1073, ⟨Lc1073, hQ1073, l1073, y1073, z1073⟩, st1073⟩ := X1072.specialBack hx (y := (⟨"java/lang/String", "<init>", "([BB)V"⟩ : MethodName)) rfl hown (mvT hZ (hw _ (List.mem_of_getElem? (i := 19) rfl))) (mvT hZ (hw _ (List.mem_of_getElem? (i := 20) rfl))) (mvT hZ (hw _ (List.mem_of_getElem? (i := 22) rfl))) (by decide) (backOf (W := 1) (rm5 l Z a0 hw [] ba bt (0 : Int32) T1072.heap n0 z1072 g_ba fE_ba_1072 fF_ba_value_1072 fF_ba_coder_1072) hZ (hw _ (List.mem_of_getElem? (i := 22) rfl)) (hw _ (List.mem_of_getElem? (i := 6) rfl)) (by decide) (by decide)) (g := (mkF m 22 #[.val (.int p1)] [(.int (0 : Int32)), (.ref bt), (.ref ba), (.ref ba)])) rfl (by rw [hml]; rfl) (Steps.refl _) (a := ba) (argsL := [(.ref bt), (.int (0 : Int32))]) (rest := [(.ref ba)]) (lenOf pd_18 rfl) rfl (by show 2 * 0 + _ ≤ _; exact Nat.le_of_eq rfl) (hb hby d2_22) (fun _ _ => ⟨rfl, rfl, (by decide : 2 + 0 ≤ _), (by decide : 5 + 0 ≤ _)⟩)
  dsimp only [Pt.U, Pt.locs, Pt.cells, Pt.slots] at X1073 l1073 y1073 z1073 st1073 hQ1073
  subst l1073 y1073 z1073
  obtain ⟨rfl, N1073q, K1073, F1073a, F1073b⟩ := hQ1073
  have N1073 := Fr.app N1072 N1073q
  refine goV (T' := T1073) (g' := (mkF m 25 #[.val (.int p1)] [(.ref ba)])) st1073 ?_
  have z1073 : n0 ≤ T1073.heap.size := Nat.le_trans z1072 K1073.1
  have fO__1073 : Old Z n0 T1073.heap := fO__1072.keep K1073 (allS g_ba all0)
  have fE_ba_1073 : Exa Z T1073.heap ba "java/lang/String" := fE_ba_1072.keep K1073
  have fA_bt_1073 : Aw Z T1073.heap bt .byte (1 : Int32) (fun _ => .int (own_b1 p1)) := V1072.keep K1073 (ninS (Ne.symm ne_ba_bt) nin0)
  have KK1073 : Keep h0 T1073.heap [] := KK1072.trans K1073 (allS (Or.inr o_ba) all0)
  refine goRetA X1073 hx hlk Bd.returns rfl rfl rfl (hb hby d2_25) ?_ (by decide) (by decide)
  exact ⟨ba, bt, rfl, N1073, KK1073, fO__1073, fE_ba_1073, F1073a, F1073b, fA_bt_1073⟩
theorem ef__valU (m : MethodId) (p1 : Int32) : entryFrame m #[(.int p1)] 1 = mkF m 0 #[.val (.int p1)] [] := by first | (simp [entryFrame, mkF, argsToLocals, Value.category]; done) | rfl
def Q_valU (Z : State) (p1 : Int32) (cs : Int32) (sf : Value) (h0 : Heap) (n0 : Nat) (v : Option Value) (h : Heap) (L : List Loc) : Prop := ∃ a b, v = some (.ref a) ∧ Fr n0 L ∧ Keep h0 h [] ∧ Old Z n0 h ∧ Exa Z h a "java/lang/String" ∧ Fld Z h a "java/lang/String" "value" "[B" (.ref b) ∧ Fld Z h a "java/lang/String" "coder" "B" (.int (1 : Int32)) ∧ Aw Z h b .byte (2 : Int32) (fun i => .int (if i = 0 then ((p1 >>> ((0 : Int32) &&& 31)).toInt8.toInt32).toInt8.toInt32 else ((p1 >>> ((8 : Int32) &&& 31)).toInt8.toInt32).toInt8.toInt32))
set_option maxRecDepth 65536 in
set_option maxHeartbeats 40000000 in
theorem rm_valU (l : Launch) (Z : State) (a0 : Array Value) (hw : ∀ d ∈ tables_1, d.before a0 Z = true) (ws : List Jvm.Cond) (p1 : Int32) (cs : Int32) (sf : Value) (h0 : Heap) (n0 : Nat) (Z0 : n0 ≤ h0.size) (O0 : Old Z n0 h0) (S1 : Sta Z Z.heap "java/lang/String" "COMPACT_STRINGS" "Z" (.int cs)) (hcs : ¬ cs = 0) (S2 : Sta Z Z.heap "jdk/internal/util/Preconditions" "SIOOBE_FORMATTER" "Ljava/util/function/BiFunction;" sf) (hsf : sf = .null ∨ ∃ fa, sf = .ref fa) (S3 : Sta Z Z.heap "java/lang/StringUTF16" "$assertionsDisabled" "Z" (.int (1 : Int32))) (S4 : Sta Z Z.heap "java/lang/StringUTF16" "HI_BYTE_SHIFT" "I" (.int (0 : Int32))) (S5 : Sta Z Z.heap "java/lang/StringUTF16" "LO_BYTE_SHIFT" "I" (.int (8 : Int32))) (hk : 255 < p1) :
    MetFree l (⟨"java/lang/String", "valueOf", "(C)Ljava/lang/String;"⟩ : MethodName) (head1 (Jvm.Cond.code (⟨"java/lang/String", "valueOf", "(C)Ljava/lang/String;"⟩ : MethodName) jdk_42_method_139_code 1 (some (.object "java/lang/String")) :: ws) ({ frames := 2, cells := 2, slots := 6, locals := 29 } : Room)) (fun a U => a = #[(.int p1)] ∧ Z.Warmed39 U.vm ∧ U.heap = h0) (fun _ _ _ _ _ => True) (fun _ U o U' => ∃ v L, o = .returned v ∧ Q_valU Z p1 cs sf h0 n0 v U'.heap L ∧ FrameEnd U o U' L ({ frames := 2, cells := 2, slots := 6, locals := 29 } : Room).cells ({ frames := 2, cells := 2, slots := 6, locals := 29 } : Room).slots) := by
  refine MetFree.of_bodySF (plainFor_of_name pn_16) hisR ?_
  intro p e s m args below meth c s₁ Bd hml0 hP hK
  obtain ⟨rfl, hZ, hh⟩ := hP
  have hx := Bd.exec
  have hby := Bd.bytes
  have hlk := Bd.notSynchronized
  have hml : c.maxLocals = 1 := hml0
  have hown : s.vm.findClass "java/lang/String" = some m.cls := findClass_of_methodNamed Bd.named
  have hnm := (name_of_methodNamed Bd.named Bd.method).1
  have X0 : Stand p l e ({ frames := 2, cells := 2, slots := 6, locals := 29 } : Room) s m #[(.int p1)] below meth c s₁ [] 0 0 := Stand.of_body Bd
  have e0 : s₁.heap = h0 := by rw [← hh, Bd.state]; rfl
  have N0 := Fr.nil n0
  show Goes p e below s 2 6 (Q_valU Z p1 cs sf h0 n0) s₁ (entryFrame m #[(.int p1)] 1)
  refine goEq (ef__valU m p1) ?_
  obtain ⟨T1074, X1074, e1074, st1074⟩ := getS2 X0 hx hZ hown (host := "") (Or.inl (hw _ (List.mem_of_getElem? (i := 8) rfl))) Via.refl e0 (S1.ext O0.2) (g := (mkF m 0 #[.val (.int p1)] [])) rfl (hb hby d2_0)
  refine go (T' := T1074) (g' := (mkF m 3 #[.val (.int p1)] [(.int cs)])) st1074 ?_
  refine go (T' := T1074) (g' := (mkF m 6 #[.val (.int p1)] [])) (fun t kt => XS.ifNo X1074.here hx rfl (hb hby d2_3) rfl ((if0 _ _).trans (feq hcs).1) kt) ?_
  refine go (T' := T1074) (g' := (mkF m 7 #[.val (.int p1)] [(.int p1)])) (fun t kt => XS.iloadN X1074.here hx rfl (hb hby d2_6) rfl kt) ?_
  obtain ⟨_, _, ⟨T1075, L1075, k1075, n1075⟩, -, X1075, ⟨Lc1075, hQ1075, l1075, y1075, z1075⟩, st1075⟩ := Jvm.LawKit.callS X1074 hx (y := (⟨"java/lang/StringLatin1", "canEncode", "(C)Z"⟩ : MethodName)) hown (mvT hZ (hw _ (List.mem_of_getElem? (i := 9) rfl))) (mvT hZ (hw _ (List.mem_of_getElem? (i := 10) rfl))) (mvT hZ (hw _ (List.mem_of_getElem? (i := 11) rfl))) (mvT hZ (hw _ (List.mem_of_getElem? (i := 12) rfl))) (by decide) (backOf (W := 0) (rm3 l Z a0 hw [] p1 h0 n0 Z0) hZ (hw _ (List.mem_of_getElem? (i := 12) rfl)) (hw _ (List.mem_of_getElem? (i := 11) rfl)) (by decide) (by decide)) (g := (mkF m 7 #[.val (.int p1)] [(.int p1)])) rfl (by rw [hml]; rfl) (argsL := [(.int p1)]) (rest := []) (lenOf pd_16 rfl) rfl (by show 2 * 0 + _ ≤ _; exact Nat.le_of_eq rfl) (hb hby d2_7) (fun _ _ => ⟨rfl, e1074, (by decide : 0 + 0 ≤ _), (by decide : 0 + 0 ≤ _)⟩)
  dsimp only [Pt.U, Pt.locs, Pt.cells, Pt.slots] at X1075 l1075 y1075 z1075 st1075 hQ1075
  subst l1075 y1075 z1075
  obtain ⟨rfl, N1075q, e1075⟩ := hQ1075
  have N1075 := Fr.app N0 N1075q
  refine go (T' := T1075) (g' := (mkF m 10 #[.val (.int p1)] [(.int (if 255 < p1 then (0 : Int32) else 1))])) st1075 ?_
  refine goEq (g' := (mkF m 10 #[.val (.int p1)] [(.int (0 : Int32))])) (by rw [if_pos hk]) ?_
  refine go (T' := T1075) (g' := (mkF m 26 #[.val (.int p1)] [])) (fun t kt => XS.ifYes X1075.here hx rfl (pc0 := 10) (pc' := 26) rfl (hb hby d2_10) rfl ((if0 _ _).trans (teq rfl).1) (by decide) (by decide) kt) ?_
  obtain ⟨T1076, h1076, X1076, e1076, E1076, A1076, D1076, -, st1076⟩ := newO X1075 hx hZ hown (hw _ (List.mem_of_getElem? (i := 13) rfl)) (hw _ (List.mem_of_getElem? (i := 14) rfl)) (hw _ (List.mem_of_getElem? (i := 6) rfl)) e1075 (g := (mkF m 26 #[.val (.int p1)] [])) rfl (hb hby d2_26) (by decide) (by decide)
  obtain ⟨ba, g1076⟩ : ∃ z, z = h0.size := ⟨_, rfl⟩
  rw [← g1076] at A1076 D1076 st1076
  have g_ba : n0 ≤ ba := Nat.le_trans Z0 (Nat.le_of_eq g1076.symm)
  have o_ba : h0.size ≤ ba := Nat.le_trans (Keep.refl h0 []).1 (Nat.le_of_eq g1076.symm)
  have z1076 : n0 ≤ h1076.size := Nat.le_trans Z0 E1076.1
  have fO__1076 : Old Z n0 h1076 := O0.ext E1076
  have K1076 : Keep h0 h1076 [] := (Keep.refl h0 []).ext E1076
  have F_value_ba : Fld Z h1076 ba "java/lang/String" "value" "[B" .null := D1076 (Or.inr (hw _ (List.mem_of_getElem? (i := 27) rfl))) (ty := (.array .byte)) (by decide)
  have F_coder_ba : Fld Z h1076 ba "java/lang/String" "coder" "B" (.int (0 : Int32)) := D1076 (Or.inr (hw _ (List.mem_of_getElem? (i := 29) rfl))) (ty := .byte) (by decide)
  refine go (T' := T1076) (g' := (mkF m 29 #[.val (.int p1)] [(.ref ba)])) st1076 ?_
  refine go (T' := T1076) (g' := (mkF m 30 #[.val (.int p1)] [(.ref ba), (.ref ba)])) (fun t kt => XS.dup X1076.here hx rfl (hb hby d2_29) rfl rfl kt) ?_
  refine go (T' := T1076) (g' := (mkF m 31 #[.val (.int p1)] [(.int p1), (.ref ba), (.ref ba)])) (fun t kt => XS.iloadN X1076.here hx rfl (hb hby d2_30) rfl kt) ?_
  obtain ⟨_, _, ⟨T1077, L1077, k1077, n1077⟩, -, X1077, ⟨Lc1077, hQ1077, l1077, y1077, z1077⟩, st1077⟩ := Jvm.LawKit.callS X1076 hx (y := (⟨"java/lang/StringUTF16", "toBytes", "(C)[B"⟩ : MethodName)) hown (mvT hZ (hw _ (List.mem_of_getElem? (i := 103) rfl))) (mvT hZ (hw _ (List.mem_of_getElem? (i := 104) rfl))) (mvT hZ (hw _ (List.mem_of_getElem? (i := 105) rfl))) (mvT hZ (hw _ (List.mem_of_getElem? (i := 106) rfl))) (by decide) (backOf (W := 2) (rm25 l Z a0 hw [] p1 cs sf h1076 n0 z1076 fO__1076 S1 hcs S2 hsf S3 S4 S5) hZ (hw _ (List.mem_of_getElem? (i := 106) rfl)) (hw _ (List.mem_of_getElem? (i := 105) rfl)) (by decide) (by decide)) (g := (mkF m 31 #[.val (.int p1)] [(.int p1), (.ref ba), (.ref ba)])) rfl (by rw [hml]; rfl) (argsL := [(.int p1)]) (rest := [(.ref ba), (.ref ba)]) (lenOf pd_17 rfl) rfl (by show 2 * 0 + _ ≤ _; exact Nat.le_of_eq rfl) (hb hby d2_31) (fun _ _ => ⟨rfl, e1076, (by decide : 1 + 1 ≤ _), (by decide : 4 + 2 ≤ _)⟩)
  dsimp only [Pt.U, Pt.locs, Pt.cells, Pt.slots] at X1077 l1077 y1077 z1077 st1077 hQ1077
  subst l1077 y1077 z1077
  obtain ⟨bt, rfl, g_bt, N1077q, K1077, ob1077, V1077⟩ := hQ1077
  have N1077 := Fr.app N1075 N1077q
  refine go (T' := T1077) (g' := (mkF m 34 #[.val (.int p1)] [(.ref bt), (.ref ba), (.ref ba)])) st1077 ?_
  have ne_ba_bt : ba ≠ bt := Nat.ne_of_lt (Nat.lt_of_lt_of_le A1076.lt ob1077)
  have z1077 : n0 ≤ T1077.heap.size := Nat.le_trans z1076 K1077.1
  have fO__1077 : Old Z n0 T1077.heap := fO__1076.keep K1077 all0
  have fE_ba_1077 : Exa Z T1077.heap ba "java/lang/String" := A1076.keep K1077
  have fF_ba_value_1077 : Fld Z T1077.heap ba "java/lang/String" "value" "[B" .null := F_value_ba.keep K1077 nin0
  have fF_ba_coder_1077 : Fld Z T1077.heap ba "java/lang/String" "coder" "B" (.int (0 : Int32)) := F_coder_ba.keep K1077 nin0
  have KK1077 : Keep h0 T1077.heap [] := K1076.trans K1077 all0
  refine go (T' := T1077) (g' := (mkF m 35 #[.val (.int p1)] [(.int (1 : Int32)), (.ref bt), (.ref ba), (.ref ba)])) (fun t kt => XS.iconst X1077.here hx rfl (hb hby d2_34) kt) ?_
  obtain ⟨_, _, ⟨T1078, L1078, k1078, n1078⟩, -, X1078, ⟨Lc1078, hQ1078, l1078, y1078, z1078⟩, st1078⟩ := X1077.specialBack hx (y := (⟨"java/lang/String", "<init>", "([BB)V"⟩ : MethodName)) rfl hown (mvT hZ (hw _ (List.mem_of_getElem? (i := 19) rfl))) (mvT hZ (hw _ (List.mem_of_getElem? (i := 20) rfl))) (mvT hZ (hw _ (List.mem_of_getElem? (i := 22) rfl))) (by decide) (backOf (W := 1) (rm5 l Z a0 hw [] ba bt (1 : Int32) T1077.heap n0 z1077 g_ba fE_ba_1077 fF_ba_value_1077 fF_ba_coder_1077) hZ (hw _ (List.mem_of_getElem? (i := 22) rfl)) (hw _ (List.mem_of_getElem? (i := 6) rfl)) (by decide) (by decide)) (g := (mkF m 35 #[.val (.int p1)] [(.int (1 : Int32)), (.ref bt), (.ref ba), (.ref ba)])) rfl (by rw [hml]; rfl) (Steps.refl _) (a := ba) (argsL := [(.ref bt), (.int (1 : Int32))]) (rest := [(.ref ba)]) (lenOf pd_18 rfl) rfl (by show 2 * 0 + _ ≤ _; exact Nat.le_of_eq rfl) (hb hby d2_35) (fun _ _ => ⟨rfl, rfl, (by decide : 2 + 0 ≤ _), (by decide : 6 + 0 ≤ _)⟩)
  dsimp only [Pt.U, Pt.locs, Pt.cells, Pt.slots] at X1078 l1078 y1078 z1078 st1078 hQ1078
  subst l1078 y1078 z1078
  obtain ⟨rfl, N1078q, K1078, F1078a, F1078b⟩ := hQ1078
  have N1078 := Fr.app N1077 N1078q
  refine goV (T' := T1078) (g' := (mkF m 38 #[.val (.int p1)] [(.ref ba)])) st1078 ?_
  have z1078 : n0 ≤ T1078.heap.size := Nat.le_trans z1077 K1078.1
  have fO__1078 : Old Z n0 T1078.heap := fO__1077.keep K1078 (allS g_ba all0)
  have fE_ba_1078 : Exa Z T1078.heap ba "java/lang/String" := fE_ba_1077.keep K1078
  have fA_bt_1078 : Aw Z T1078.heap bt .byte (2 : Int32) (fun i => .int (if i = 0 then ((p1 >>> ((0 : Int32) &&& 31)).toInt8.toInt32).toInt8.toInt32 else ((p1 >>> ((8 : Int32) &&& 31)).toInt8.toInt32).toInt8.toInt32)) := V1077.keep K1078 (ninS (Ne.symm ne_ba_bt) nin0)
  have KK1078 : Keep h0 T1078.heap [] := KK1077.trans K1078 (allS (Or.inr o_ba) all0)
  refine goRetA X1078 hx hlk Bd.returns rfl rfl rfl (hb hby d2_38) ?_ (by decide) (by decide)
  exact ⟨ba, bt, rfl, N1078, KK1078, fO__1078, fE_ba_1078, F1078a, F1078b, fA_bt_1078⟩
theorem pd_19 : parseMethodDescriptor "(C)Ljava/lang/String;" = some ⟨[.char], some (.object "java/lang/String")⟩ := by decide +kernel
theorem pd_20 : parseMethodDescriptor "(Ljava/lang/String;I)Z" = some ⟨[(.object "java/lang/String"), .int], some .boolean⟩ := by decide +kernel
theorem pn_0 : plainName "com/example/tallyward/tallyward/model/CodesIsCodePinLaw" = true := by first | (simp [plainName, overriddenIn]; done) | decide +kernel
theorem ef_0 (m : MethodId) (p1 : Int32) (p2 : Int32) : entryFrame m #[(.int p1), (.int p2)] maxLocals = mkF m 0 #[.val (.int p1), .val (.int p2), .unset, .unset, .unset, .unset, .unset, .unset] [] := by first | (simp [entryFrame, mkF, argsToLocals, Value.category, maxLocals]; done) | rfl
def Q0 (Z : State) (p1 : Int32) (p2 : Int32) (cs : Int32) (sf : Value) (h0 : Heap) (n0 : Nat) (v : Option Value) (h : Heap) (L : List Loc) : Prop := v = some (.int 1) ∧ Fr n0 L
set_option maxRecDepth 65536 in
set_option maxHeartbeats 40000000 in
theorem rm0 (l : Launch) (Z : State) (a0 : Array Value) (hw : ∀ d ∈ tables_1, d.before a0 Z = true) (ws : List Jvm.Cond) (p1 : Int32) (p2 : Int32) (cs : Int32) (sf : Value) (h0 : Heap) (n0 : Nat) (Z0 : n0 ≤ h0.size) (O0 : Old Z n0 h0) (S1 : Sta Z Z.heap "java/lang/String" "COMPACT_STRINGS" "Z" (.int cs)) (hcs : ¬ cs = 0) (S2 : Sta Z Z.heap "jdk/internal/util/Preconditions" "SIOOBE_FORMATTER" "Ljava/util/function/BiFunction;" sf) (hsf : sf = .null ∨ ∃ fa, sf = .ref fa) (S3 : Sta Z Z.heap "java/lang/StringUTF16" "$assertionsDisabled" "Z" (.int (1 : Int32))) (S4 : Sta Z Z.heap "java/lang/StringUTF16" "HI_BYTE_SHIFT" "I" (.int (0 : Int32))) (S5 : Sta Z Z.heap "java/lang/StringUTF16" "LO_BYTE_SHIFT" "I" (.int (8 : Int32))) :
    MetFree l x (head1 (Jvm.Cond.code x code maxLocals ret :: ws) room_1) (fun a U => a = #[(.int p1), (.int p2)] ∧ Z.Warmed39 U.vm ∧ U.heap = h0) (fun _ _ _ _ _ => True) (fun _ U o U' => ∃ v L, o = .returned v ∧ Q0 Z p1 p2 cs sf h0 n0 v U'.heap L ∧ FrameEnd U o U' L 2 6) := by
  refine MetFree.of_bodySF (plainFor_of_name pn_0) hisR ?_
  intro p e s m args below meth c s₁ Bd hml0 hP hK
  obtain ⟨rfl, hZ, hh⟩ := hP
  have hx := Bd.exec
  have hby := Bd.bytes
  have hlk := Bd.notSynchronized
  have hml : c.maxLocals = 8 := hml0
  have hown : s.vm.findClass "com/example/tallyward/tallyward/model/CodesIsCodePinLaw" = some m.cls := findClass_of_methodNamed Bd.named
  have hnm := (name_of_methodNamed Bd.named Bd.method).1
  have X0 : Stand p l e room_1 s m #[(.int p1), (.int p2)] below meth c s₁ [] 0 0 := Stand.of_body Bd
  have e0 : s₁.heap = h0 := by rw [← hh, Bd.state]; rfl
  have N0 := Fr.nil n0
  show Goes p e below s 2 6 (Q0 Z p1 p2 cs sf h0 n0) s₁ (entryFrame m #[(.int p1), (.int p2)] maxLocals)
  refine goEq (ef_0 m p1 p2) ?_
  refine go (T' := s₁) (g' := (mkF m 1 #[.val (.int p1), .val (.int p2), .unset, .unset, .unset, .unset, .unset, .unset] [(.int p2)])) (fun t kt => XS.iloadN X0.here hx rfl (hb hby at_0) rfl kt) ?_
  refine go (T' := s₁) (g' := (mkF m 2 #[.val (.int p1), .val (.int p2), .unset, .unset, .unset, .unset, .unset, .unset] [(.int (1 : Int32)), (.int p2)])) (fun t kt => XS.iconst X0.here hx rfl (hb hby at_1) kt) ?_
  refine go (T' := s₁) (g' := (mkF m 3 #[.val (.int p1), .val (.int p2), .unset, .unset, .unset, .unset, .unset, .unset] [(.int (p2 &&& (1 : Int32)))])) (fun t kt => XS.iand X0.here hx rfl (hb hby at_2) rfl kt) ?_
  refine goVia (T₂ := s₁) (g₂ := (mkF m 21 #[.val (.int p1), .val (.int p2), .val (.int (if (p2 &&& (1 : Int32)) = (0 : Int32) then ((p1 &&& (65535 : Int32)).toUInt32.toUInt16.toUInt32.toInt32) else ((p1 &&& (127 : Int32)).toUInt32.toUInt16.toUInt32.toInt32))), .unset, .unset, .unset, .unset, .unset] [])) (fun kV => ?_) ?_
  · by_cases hm : (p2 &&& (1 : Int32)) = (0 : Int32)
    · refine go (T' := s₁) (g' := (mkF m 15 #[.val (.int p1), .val (.int p2), .unset, .unset, .unset, .unset, .unset, .unset] [])) (fun t kt => XS.ifYes X0.here hx rfl (pc0 := 3) (pc' := 15) rfl (hb hby at_3) rfl ((if0 _ _).trans (teq hm).1) (by decide) (by decide) kt) ?_
      refine go (T' := s₁) (g' := (mkF m 16 #[.val (.int p1), .val (.int p2), .unset, .unset, .unset, .unset, .unset, .unset] [(.int p1)])) (fun t kt => XS.iloadN X0.here hx rfl (hb hby at_15) rfl kt) ?_
      refine go (T' := s₁) (g' := (mkF m 18 #[.val (.int p1), .val (.int p2), .unset, .unset, .unset, .unset, .unset, .unset] [(.int (65535 : Int32)), (.int p1)])) (fun t kt => X0.ldcInt hx hown (mvT hZ (hw _ (List.mem_of_getElem? (i := 102) rfl))) (g := (mkF m 16 #[.val (.int p1), .val (.int p2), .unset, .unset, .unset, .unset, .unset, .unset] [(.int p1)])) rfl (hb hby at_16) _ kt) ?_
      refine go (T' := s₁) (g' := (mkF m 19 #[.val (.int p1), .val (.int p2), .unset, .unset, .unset, .unset, .unset, .unset] [(.int (p1 &&& (65535 : Int32)))])) (fun t kt => XS.iand X0.here hx rfl (hb hby at_18) rfl kt) ?_
      refine go (T' := s₁) (g' := (mkF m 20 #[.val (.int p1), .val (.int p2), .unset, .unset, .unset, .unset, .unset, .unset] [(.int ((p1 &&& (65535 : Int32)).toUInt32.toUInt16.toUInt32.toInt32))])) (fun t kt => XS.i2c X0.here hx rfl (hb hby at_19) rfl kt) ?_
      refine go (T' := s₁) (g' := (mkF m 21 #[.val (.int p1), .val (.int p2), .val (.int ((p1 &&& (65535 : Int32)).toUInt32.toUInt16.toUInt32.toInt32)), .unset, .unset, .unset, .unset, .unset] [])) (fun t kt => XS.istoreN X0.here hx rfl (hb hby at_20) rfl (l' := #[.val (.int p1), .val (.int p2), .val (.int ((p1 &&& (65535 : Int32)).toUInt32.toUInt16.toUInt32.toInt32)), .unset, .unset, .unset, .unset, .unset]) rfl kt) ?_
      exact goEq (by rw [if_pos hm]) kV
    · refine go (T' := s₁) (g' := (mkF m 6 #[.val (.int p1), .val (.int p2), .unset, .unset, .unset, .unset, .unset, .unset] [])) (fun t kt => XS.ifNo X0.here hx rfl (hb hby at_3) rfl ((if0 _ _).trans (feq hm).1) kt) ?_
      refine go (T' := s₁) (g' := (mkF m 7 #[.val (.int p1), .val (.int p2), .unset, .unset, .unset, .unset, .unset, .unset] [(.int p1)])) (fun t kt => XS.iloadN X0.here hx rfl (hb hby at_6) rfl kt) ?_
      refine go (T' := s₁) (g' := (mkF m 9 #[.val (.int p1), .val (.int p2), .unset, .unset, .unset, .unset, .unset, .unset] [(.int (127 : Int32)), (.int p1)])) (fun t kt => XS.bipush X0.here hx rfl (hb hby at_7) kt) ?_
      refine go (T' := s₁) (g' := (mkF m 10 #[.val (.int p1), .val (.int p2), .unset, .unset, .unset, .unset, .unset, .unset] [(.int (p1 &&& (127 : Int32)))])) (fun t kt => XS.iand X0.here hx rfl (hb hby at_9) rfl kt) ?_
      refine go (T' := s₁) (g' := (mkF m 11 #[.val (.int p1), .val (.int p2), .unset, .unset, .unset, .unset, .unset, .unset] [(.int ((p1 &&& (127 : Int32)).toUInt32.toUInt16.toUInt32.toInt32))])) (fun t kt => XS.i2c X0.here hx rfl (hb hby at_10) rfl kt) ?_
      refine go (T' := s₁) (g' := (mkF m 12 #[.val (.int p1), .val (.int p2), .val (.int ((p1 &&& (127 : Int32)).toUInt32.toUInt16.toUInt32.toInt32)), .unset, .unset, .unset, .unset, .unset] [])) (fun t kt => XS.istoreN X0.here hx rfl (hb hby at_11) rfl (l' := #[.val (.int p1), .val (.int p2), .val (.int ((p1 &&& (127 : Int32)).toUInt32.toUInt16.toUInt32.toInt32)), .unset, .unset, .unset, .unset, .unset]) rfl kt) ?_
      refine go (T' := s₁) (g' := (mkF m 21 #[.val (.int p1), .val (.int p2), .val (.int ((p1 &&& (127 : Int32)).toUInt32.toUInt16.toUInt32.toInt32)), .unset, .unset, .unset, .unset, .unset] [])) (fun t kt => XS.goto X0.here hx rfl (pc0 := 12) (pc' := 21) rfl (hb hby at_12) (by decide) (by decide) kt) ?_
      exact goEq (by rw [if_neg hm]) kV
  · obtain ⟨ch, e_ch⟩ : ∃ z, z = (if (p2 &&& (1 : Int32)) = (0 : Int32) then ((p1 &&& (65535 : Int32)).toUInt32.toUInt16.toUInt32.toInt32) else ((p1 &&& (127 : Int32)).toUInt32.toUInt16.toUInt32.toInt32)) := ⟨_, rfl⟩
    refine goEq (g' := (mkF m 21 #[.val (.int p1), .val (.int p2), .val (.int ch), .unset, .unset, .unset, .unset, .unset] [])) (by rw [e_ch]) ?_
    have hch : ∃ x : Int32, ch = x.toUInt32.toUInt16.toUInt32.toInt32 := by rw [e_ch]; split <;> exact ⟨_, rfl⟩
    have hch0 : 0 ≤ ch.toInt := by obtain ⟨x, rfl⟩ := hch; exact own_char x
    refine go (T' := s₁) (g' := (mkF m 22 #[.val (.int p1), .val (.int p2), .val (.int ch), .unset, .unset, .unset, .unset, .unset] [(.int ch)])) (fun t kt => XS.iloadN X0.here hx rfl (hb hby at_21) rfl kt) ?_
    refine go (T' := s₁) (g' := (mkF m 23 #[.val (.int p1), .val (.int p2), .val (.int ch), .val (.int ch), .unset, .unset, .unset, .unset] [])) (fun t kt => XS.istoreN X0.here hx rfl (hb hby at_22) rfl (l' := #[.val (.int p1), .val (.int p2), .val (.int ch), .val (.int ch), .unset, .unset, .unset, .unset]) rfl kt) ?_
    refine goVia (T₂ := s₁) (g₂ := (mkF m 40 #[.val (.int p1), .val (.int p2), .val (.int ch), .val (.int ch), .unset, .unset, .unset, .unset] [(.int (own_pr ch))])) (fun kV => ?_) ?_
    · refine go (T' := s₁) (g' := (mkF m 24 #[.val (.int p1), .val (.int p2), .val (.int ch), .val (.int ch), .unset, .unset, .unset, .unset] [(.int ch)])) (fun t kt => XS.iloadN X0.here hx rfl (hb hby at_23) rfl kt) ?_
      refine go (T' := s₁) (g' := (mkF m 26 #[.val (.int p1), .val (.int p2), .val (.int ch), .val (.int ch), .unset, .unset, .unset, .unset] [(.int (32 : Int32)), (.int ch)])) (fun t kt => XS.bipush X0.here hx rfl (hb hby at_24) kt) ?_
      by_cases h32 : (32 : Int32) < ch
      · refine go (T' := s₁) (g' := (mkF m 29 #[.val (.int p1), .val (.int p2), .val (.int ch), .val (.int ch), .unset, .unset, .unset, .unset] [])) (fun t kt => XS.icmpNo X0.here hx rfl (hb hby at_26) rfl (tlt h32).2.2.2 kt) ?_
        refine go (T' := s₁) (g' := (mkF m 30 #[.val (.int p1), .val (.int p2), .val (.int ch), .val (.int ch), .unset, .unset, .unset, .unset] [(.int ch)])) (fun t kt => XS.iloadN X0.here hx rfl (hb hby at_29) rfl kt) ?_
        refine go (T' := s₁) (g' := (mkF m 32 #[.val (.int p1), .val (.int p2), .val (.int ch), .val (.int ch), .unset, .unset, .unset, .unset] [(.int (127 : Int32)), (.int ch)])) (fun t kt => XS.bipush X0.here hx rfl (hb hby at_30) kt) ?_
        by_cases h127 : ch < (127 : Int32)
        · refine go (T' := s₁) (g' := (mkF m 35 #[.val (.int p1), .val (.int p2), .val (.int ch), .val (.int ch), .unset, .unset, .unset, .unset] [])) (fun t kt => XS.icmpNo X0.here hx rfl (hb hby at_32) rfl (tlt h127).2.1 kt) ?_
          refine go (T' := s₁) (g' := (mkF m 36 #[.val (.int p1), .val (.int p2), .val (.int ch), .val (.int ch), .unset, .unset, .unset, .unset] [(.int (1 : Int32))])) (fun t kt => XS.iconst X0.here hx rfl (hb hby at_35) kt) ?_
          refine go (T' := s₁) (g' := (mkF m 40 #[.val (.int p1), .val (.int p2), .val (.int ch), .val (.int ch), .unset, .unset, .unset, .unset] [(.int (1 : Int32))])) (fun t kt => XS.goto X0.here hx rfl (pc0 := 36) (pc' := 40) rfl (hb hby at_36) (by decide) (by decide) kt) ?_
          exact goEq (by rw [own_pr, if_pos h32, if_pos h127]) kV
        · refine go (T' := s₁) (g' := (mkF m 39 #[.val (.int p1), .val (.int p2), .val (.int ch), .val (.int ch), .unset, .unset, .unset, .unset] [])) (fun t kt => XS.icmpYes X0.here hx rfl (pc0 := 32) (pc' := 39) rfl (hb hby at_32) rfl (flt h127).2.1 (by decide) (by decide) kt) ?_
          refine go (T' := s₁) (g' := (mkF m 40 #[.val (.int p1), .val (.int p2), .val (.int ch), .val (.int ch), .unset, .unset, .unset, .unset] [(.int (0 : Int32))])) (fun t kt => XS.iconst X0.here hx rfl (hb hby at_39) kt) ?_
          exact goEq (by rw [own_pr, if_pos h32, if_neg h127]) kV
      · refine go (T' := s₁) (g' := (mkF m 39 #[.val (.int p1), .val (.int p2), .val (.int ch), .val (.int ch), .unset, .unset, .unset, .unset] [])) (fun t kt => XS.icmpYes X0.here hx rfl (pc0 := 26) (pc' := 39) rfl (hb hby at_26) rfl (flt h32).2.2.2 (by decide) (by decide) kt) ?_
        refine go (T' := s₁) (g' := (mkF m 40 #[.val (.int p1), .val (.int p2), .val (.int ch), .val (.int ch), .unset, .unset, .unset, .unset] [(.int (0 : Int32))])) (fun t kt => XS.iconst X0.here hx rfl (hb hby at_39) kt) ?_
        exact goEq (by rw [own_pr, if_neg h32]) kV
    · refine go (T' := s₁) (g' := (mkF m 42 #[.val (.int p1), .val (.int p2), .val (.int ch), .val (.int ch), .val (.int (own_pr ch)), .unset, .unset, .unset] [])) (fun t kt => XS.istore X0.here hx rfl (hb hby at_40) rfl (l' := #[.val (.int p1), .val (.int p2), .val (.int ch), .val (.int ch), .val (.int (own_pr ch)), .unset, .unset, .unset]) rfl kt) ?_
      refine goVia (T₂ := s₁) (g₂ := (mkF m 58 #[.val (.int p1), .val (.int p2), .val (.int ch), .val (.int ch), .val (.int (own_pr ch)), .unset, .unset, .unset] [(.int (own_ic ch))])) (fun kV => ?_) ?_
      · refine go (T' := s₁) (g' := (mkF m 44 #[.val (.int p1), .val (.int p2), .val (.int ch), .val (.int ch), .val (.int (own_pr ch)), .unset, .unset, .unset] [(.int (own_pr ch))])) (fun t kt => XS.iload X0.here hx rfl (hb hby at_42) rfl kt) ?_
        by_cases hpr : (own_pr ch) = (0 : Int32)
        · refine go (T' := s₁) (g' := (mkF m 57 #[.val (.int p1), .val (.int p2), .val (.int ch), .val (.int ch), .val (.int (own_pr ch)), .unset, .unset, .unset] [])) (fun t kt => XS.ifYes X0.here hx rfl (pc0 := 44) (pc' := 57) rfl (hb hby at_44) rfl ((if0 _ _).trans (teq hpr).1) (by decide) (by decide) kt) ?_
          refine go (T' := s₁) (g' := (mkF m 58 #[.val (.int p1), .val (.int p2), .val (.int ch), .val (.int ch), .val (.int (own_pr ch)), .unset, .unset, .unset] [(.int (0 : Int32))])) (fun t kt => XS.iconst X0.here hx rfl (hb hby at_57) kt) ?_
          exact goEq (by rw [← own_ic_eq, if_pos hpr]) kV
        · refine go (T' := s₁) (g' := (mkF m 47 #[.val (.int p1), .val (.int p2), .val (.int ch), .val (.int ch), .val (.int (own_pr ch)), .unset, .unset, .unset] [])) (fun t kt => XS.ifNo X0.here hx rfl (hb hby at_44) rfl ((if0 _ _).trans (feq hpr).1) kt) ?_
          refine go (T' := s₁) (g' := (mkF m 48 #[.val (.int p1), .val (.int p2), .val (.int ch), .val (.int ch), .val (.int (own_pr ch)), .unset, .unset, .unset] [(.int ch)])) (fun t kt => XS.iloadN X0.here hx rfl (hb hby at_47) rfl kt) ?_
          refine go (T' := s₁) (g' := (mkF m 50 #[.val (.int p1), .val (.int p2), .val (.int ch), .val (.int ch), .val (.int (own_pr ch)), .unset, .unset, .unset] [(.int (44 : Int32)), (.int ch)])) (fun t kt => XS.bipush X0.here hx rfl (hb hby at_48) kt) ?_
          by_cases h44 : ch = (44 : Int32)
          · refine go (T' := s₁) (g' := (mkF m 57 #[.val (.int p1), .val (.int p2), .val (.int ch), .val (.int ch), .val (.int (own_pr ch)), .unset, .unset, .unset] [])) (fun t kt => XS.icmpYes X0.here hx rfl (pc0 := 50) (pc' := 57) rfl (hb hby at_50) rfl (teq h44).1 (by decide) (by decide) kt) ?_
            refine go (T' := s₁) (g' := (mkF m 58 #[.val (.int p1), .val (.int p2), .val (.int ch), .val (.int ch), .val (.int (own_pr ch)), .unset, .unset, .unset] [(.int (0 : Int32))])) (fun t kt => XS.iconst X0.here hx rfl (hb hby at_57) kt) ?_
            exact goEq (by rw [← own_ic_eq, if_neg hpr, if_pos h44]) kV
          · refine go (T' := s₁) (g' := (mkF m 53 #[.val (.int p1), .val (.int p2), .val (.int ch), .val (.int ch), .val (.int (own_pr ch)), .unset, .unset, .unset] [])) (fun t kt => XS.icmpNo X0.here hx rfl (hb hby at_50) rfl (feq h44).1 kt) ?_
            refine go (T' := s₁) (g' := (mkF m 54 #[.val (.int p1), .val (.int p2), .val (.int ch), .val (.int ch), .val (.int (own_pr ch)), .unset, .unset, .unset] [(.int (1 : Int32))])) (fun t kt => XS.iconst X0.here hx rfl (hb hby at_53) kt) ?_
            refine go (T' := s₁) (g' := (mkF m 58 #[.val (.int p1), .val (.int p2), .val (.int ch), .val (.int ch), .val (.int (own_pr ch)), .unset, .unset, .unset] [(.int (1 : Int32))])) (fun t kt => XS.goto X0.here hx rfl (pc0 := 54) (pc' := 58) rfl (hb hby at_54) (by decide) (by decide) kt) ?_
            exact goEq (by rw [← own_ic_eq, if_neg hpr, if_neg h44]) kV
      · refine go (T' := s₁) (g' := (mkF m 60 #[.val (.int p1), .val (.int p2), .val (.int ch), .val (.int ch), .val (.int (own_pr ch)), .val (.int (own_ic ch)), .unset, .unset] [])) (fun t kt => XS.istore X0.here hx rfl (hb hby at_58) rfl (l' := #[.val (.int p1), .val (.int p2), .val (.int ch), .val (.int ch), .val (.int (own_pr ch)), .val (.int (own_ic ch)), .unset, .unset]) rfl kt) ?_
        refine go (T' := s₁) (g' := (mkF m 61 #[.val (.int p1), .val (.int p2), .val (.int ch), .val (.int ch), .val (.int (own_pr ch)), .val (.int (own_ic ch)), .unset, .unset] [(.int ch)])) (fun t kt => XS.iloadN X0.here hx rfl (hb hby at_60) rfl kt) ?_
        obtain ⟨_, _, ⟨T1079, L1079, k1079, n1079⟩, -, X1079, ⟨Lc1079, hQ1079, l1079, y1079, z1079⟩, st1079⟩ := Jvm.LawKit.callS X0 hx (y := (⟨"com/example/tallyward/tallyward/model/Codes", "isCode", "(C)Z"⟩ : MethodName)) hown (mvT hZ (hw _ (List.mem_of_getElem? (i := 0) rfl))) (mvT hZ (hw _ (List.mem_of_getElem? (i := 1) rfl))) (mvT hZ (hw _ (List.mem_of_getElem? (i := 2) rfl))) (mvT hZ (hw _ (List.mem_of_getElem? (i := 3) rfl))) (by decide) (backOf (W := 0) (rm1 l Z a0 hw [] ch h0 n0 Z0) hZ (hw _ (List.mem_of_getElem? (i := 3) rfl)) (hw _ (List.mem_of_getElem? (i := 2) rfl)) (by decide) (by decide)) (g := (mkF m 61 #[.val (.int p1), .val (.int p2), .val (.int ch), .val (.int ch), .val (.int (own_pr ch)), .val (.int (own_ic ch)), .unset, .unset] [(.int ch)])) rfl (by rw [hml]; rfl) (argsL := [(.int ch)]) (rest := []) (lenOf pd_16 rfl) rfl (by show 2 * 0 + _ ≤ _; exact Nat.le_of_eq rfl) (hb hby at_61) (fun _ _ => ⟨rfl, e0, (by decide : 0 + 0 ≤ _), (by decide : 0 + 0 ≤ _)⟩)
        dsimp only [Pt.U, Pt.locs, Pt.cells, Pt.slots] at X1079 l1079 y1079 z1079 st1079 hQ1079
        subst l1079 y1079 z1079
        obtain ⟨rfl, N1079q, e1079⟩ := hQ1079
        have N1079 := Fr.app N0 N1079q
        refine go (T' := T1079) (g' := (mkF m 64 #[.val (.int p1), .val (.int p2), .val (.int ch), .val (.int ch), .val (.int (own_pr ch)), .val (.int (own_ic ch)), .unset, .unset] [(.int (own_ic ch))])) st1079 ?_
        refine go (T' := T1079) (g' := (mkF m 66 #[.val (.int p1), .val (.int p2), .val (.int ch), .val (.int ch), .val (.int (own_pr ch)), .val (.int (own_ic ch)), .val (.int (own_ic ch)), .unset] [])) (fun t kt => XS.istore X1079.here hx rfl (hb hby at_64) rfl (l' := #[.val (.int p1), .val (.int p2), .val (.int ch), .val (.int ch), .val (.int (own_pr ch)), .val (.int (own_ic ch)), .val (.int (own_ic ch)), .unset]) rfl kt) ?_
        refine go (T' := T1079) (g' := (mkF m 67 #[.val (.int p1), .val (.int p2), .val (.int ch), .val (.int ch), .val (.int (own_pr ch)), .val (.int (own_ic ch)), .val (.int (own_ic ch)), .unset] [(.int ch)])) (fun t kt => XS.iloadN X1079.here hx rfl (hb hby at_66) rfl kt) ?_
        by_cases h255 : 255 < ch
        · obtain ⟨_, _, ⟨T1080, L1080, k1080, n1080⟩, -, X1080, ⟨Lc1080, hQ1080, l1080, y1080, z1080⟩, st1080⟩ := Jvm.LawKit.callS X1079 hx (y := (⟨"java/lang/String", "valueOf", "(C)Ljava/lang/String;"⟩ : MethodName)) hown (mvT hZ (hw _ (List.mem_of_getElem? (i := 4) rfl))) (mvT hZ (hw _ (List.mem_of_getElem? (i := 5) rfl))) (mvT hZ (hw _ (List.mem_of_getElem? (i := 6) rfl))) (mvT hZ (hw _ (List.mem_of_getElem? (i := 7) rfl))) (by decide) (backOf (W := 0) (rm_valU l Z a0 hw [] ch cs sf h0 n0 Z0 O0 S1 hcs S2 hsf S3 S4 S5 h255) hZ (hw _ (List.mem_of_getElem? (i := 7) rfl)) (hw _ (List.mem_of_getElem? (i := 6) rfl)) (by decide) (by decide)) (g := (mkF m 67 #[.val (.int p1), .val (.int p2), .val (.int ch), .val (.int ch), .val (.int (own_pr ch)), .val (.int (own_ic ch)), .val (.int (own_ic ch)), .unset] [(.int ch)])) rfl (by rw [hml]; rfl) (argsL := [(.int ch)]) (rest := []) (lenOf pd_19 rfl) rfl (by show 2 * 0 + _ ≤ _; exact Nat.le_of_eq rfl) (hb hby at_67) (fun _ _ => ⟨rfl, e1079, (by decide : 0 + 2 ≤ _), (by decide : 0 + 6 ≤ _)⟩)
          dsimp only [Pt.U, Pt.locs, Pt.cells, Pt.slots] at X1080 l1080 y1080 z1080 st1080 hQ1080
          subst l1080 y1080 z1080
          obtain ⟨a1, b1, rfl, N1080q, K1080, OO, E1, Fv, Fc, V1⟩ := hQ1080
          have N1080 := Fr.app N1079 N1080q
          refine go (T' := T1080) (g' := (mkF m 70 #[.val (.int p1), .val (.int p2), .val (.int ch), .val (.int ch), .val (.int (own_pr ch)), .val (.int (own_ic ch)), .val (.int (own_ic ch)), .unset] [(.ref a1)])) st1080 ?_
          have z1080 : n0 ≤ T1080.heap.size := Nat.le_trans Z0 K1080.1
          refine go (T' := T1080) (g' := (mkF m 71 #[.val (.int p1), .val (.int p2), .val (.int ch), .val (.int ch), .val (.int (own_pr ch)), .val (.int (own_ic ch)), .val (.int (own_ic ch)), .unset] [(.int (1 : Int32)), (.ref a1)])) (fun t kt => XS.iconst X1080.here hx rfl (hb hby at_70) kt) ?_
          have hu : nar .char (own_u (((ch >>> ((0 : Int32) &&& 31)).toInt8.toInt32).toInt8.toInt32) (((ch >>> ((8 : Int32) &&& 31)).toInt8.toInt32).toInt8.toInt32)) = ch := by rw [own_uu hch]; obtain ⟨x, rfl⟩ := hch; simp only [nar, UInt32.toUInt32_toInt32, UInt16.toUInt16_toUInt32]
          obtain ⟨hb1, hb2⟩ := own_big h255
          obtain ⟨_, _, ⟨T1081, L1081, k1081, n1081⟩, -, X1081, ⟨Lc1081, hQ1081, l1081, y1081, z1081⟩, st1081⟩ := Jvm.LawKit.callS X1080 hx (y := (⟨"com/example/tallyward/tallyward/model/Codes", "isCode", "(Ljava/lang/String;I)Z"⟩ : MethodName)) hown (mvT hZ (hw _ (List.mem_of_getElem? (i := 30) rfl))) (mvT hZ (hw _ (List.mem_of_getElem? (i := 31) rfl))) (mvT hZ (hw _ (List.mem_of_getElem? (i := 2) rfl))) (mvT hZ (hw _ (List.mem_of_getElem? (i := 32) rfl))) (by decide) (backOf (W := 0) (rm_iscU l Z a0 hw [] a1 1 b1 (((ch >>> ((0 : Int32) &&& 31)).toInt8.toInt32).toInt8.toInt32) (((ch >>> ((8 : Int32) &&& 31)).toInt8.toInt32).toInt8.toInt32) cs sf T1080.heap n0 z1080 rfl OO S1 hcs S2 hsf S3 S4 S5 E1 Fv Fc V1 (by rw [hu]; exact hb1)) hZ (hw _ (List.mem_of_getElem? (i := 32) rfl)) (hw _ (List.mem_of_getElem? (i := 2) rfl)) (by decide) (by decide)) (g := (mkF m 71 #[.val (.int p1), .val (.int p2), .val (.int ch), .val (.int ch), .val (.int (own_pr ch)), .val (.int (own_ic ch)), .val (.int (own_ic ch)), .unset] [(.int (1 : Int32)), (.ref a1)])) rfl (by rw [hml]; rfl) (argsL := [(.ref a1), (.int (1 : Int32))]) (rest := []) (lenOf pd_20 rfl) rfl (by show 2 * 0 + _ ≤ _; exact Nat.le_of_eq rfl) (hb hby at_71) (fun _ _ => ⟨rfl, rfl, (by decide : 2 + 0 ≤ _), (by decide : 6 + 0 ≤ _)⟩)
          dsimp only [Pt.U, Pt.locs, Pt.cells, Pt.slots] at X1081 l1081 y1081 z1081 st1081 hQ1081
          subst l1081 y1081 z1081
          obtain ⟨rfl, N1081q, e1081⟩ := hQ1081
          have N1081 := Fr.app N1080 N1081q
          refine go (T' := T1081) (g' := (mkF m 74 #[.val (.int p1), .val (.int p2), .val (.int ch), .val (.int ch), .val (.int (own_pr ch)), .val (.int (own_ic ch)), .val (.int (own_ic ch)), .unset] [(.int (0 : Int32))])) st1081 ?_
          refine go (T' := T1081) (g' := (mkF m 76 #[.val (.int p1), .val (.int p2), .val (.int ch), .val (.int ch), .val (.int (own_pr ch)), .val (.int (own_ic ch)), .val (.int (own_ic ch)), .val (.int (0 : Int32))] [])) (fun t kt => XS.istore X1081.here hx rfl (hb hby at_74) rfl (l' := #[.val (.int p1), .val (.int p2), .val (.int ch), .val (.int ch), .val (.int (own_pr ch)), .val (.int (own_ic ch)), .val (.int (own_ic ch)), .val (.int (0 : Int32))]) rfl kt) ?_
          refine go (T' := T1081) (g' := (mkF m 78 #[.val (.int p1), .val (.int p2), .val (.int ch), .val (.int ch), .val (.int (own_pr ch)), .val (.int (own_ic ch)), .val (.int (own_ic ch)), .val (.int (0 : Int32))] [(.int (own_ic ch))])) (fun t kt => XS.iload X1081.here hx rfl (hb hby at_76) rfl kt) ?_
          refine go (T' := T1081) (g' := (mkF m 80 #[.val (.int p1), .val (.int p2), .val (.int ch), .val (.int ch), .val (.int (own_pr ch)), .val (.int (own_ic ch)), .val (.int (own_ic ch)), .val (.int (0 : Int32))] [(.int (own_ic ch)), (.int (own_ic ch))])) (fun t kt => XS.iload X1081.here hx rfl (hb hby at_78) rfl kt) ?_
          refine go (T' := T1081) (g' := (mkF m 83 #[.val (.int p1), .val (.int p2), .val (.int ch), .val (.int ch), .val (.int (own_pr ch)), .val (.int (own_ic ch)), .val (.int (own_ic ch)), .val (.int (0 : Int32))] [])) (fun t kt => XS.icmpNo X1081.here hx rfl (hb hby at_80) rfl (teq (rfl : own_ic ch = _)).2 kt) ?_
          refine go (T' := T1081) (g' := (mkF m 85 #[.val (.int p1), .val (.int p2), .val (.int ch), .val (.int ch), .val (.int (own_pr ch)), .val (.int (own_ic ch)), .val (.int (own_ic ch)), .val (.int (0 : Int32))] [(.int (own_ic ch))])) (fun t kt => XS.iload X1081.here hx rfl (hb hby at_83) rfl kt) ?_
          refine go (T' := T1081) (g' := (mkF m 87 #[.val (.int p1), .val (.int p2), .val (.int ch), .val (.int ch), .val (.int (own_pr ch)), .val (.int (own_ic ch)), .val (.int (own_ic ch)), .val (.int (0 : Int32))] [(.int (0 : Int32)), (.int (own_ic ch))])) (fun t kt => XS.iload X1081.here hx rfl (hb hby at_85) rfl kt) ?_
          refine go (T' := T1081) (g' := (mkF m 90 #[.val (.int p1), .val (.int p2), .val (.int ch), .val (.int ch), .val (.int (own_pr ch)), .val (.int (own_ic ch)), .val (.int (own_ic ch)), .val (.int (0 : Int32))] [])) (fun t kt => XS.icmpNo X1081.here hx rfl (hb hby at_87) rfl (teq hb2).2 kt) ?_
          refine go (T' := T1081) (g' := (mkF m 91 #[.val (.int p1), .val (.int p2), .val (.int ch), .val (.int ch), .val (.int (own_pr ch)), .val (.int (own_ic ch)), .val (.int (own_ic ch)), .val (.int (0 : Int32))] [(.int (1 : Int32))])) (fun t kt => XS.iconst X1081.here hx rfl (hb hby at_90) kt) ?_
          refine go (T' := T1081) (g' := (mkF m 95 #[.val (.int p1), .val (.int p2), .val (.int ch), .val (.int ch), .val (.int (own_pr ch)), .val (.int (own_ic ch)), .val (.int (own_ic ch)), .val (.int (0 : Int32))] [(.int (1 : Int32))])) (fun t kt => XS.goto X1081.here hx rfl (pc0 := 91) (pc' := 95) rfl (hb hby at_91) (by decide) (by decide) kt) ?_
          refine goRetN X1081 hx hlk (t := .boolean) Bd.returns (by simp) (hb hby at_95) ?_ (by decide) (by decide)
          rw [e1081]
          exact ⟨rfl, N1081⟩
        · obtain ⟨_, _, ⟨T1082, L1082, k1082, n1082⟩, -, X1082, ⟨Lc1082, hQ1082, l1082, y1082, z1082⟩, st1082⟩ := Jvm.LawKit.callS X1079 hx (y := (⟨"java/lang/String", "valueOf", "(C)Ljava/lang/String;"⟩ : MethodName)) hown (mvT hZ (hw _ (List.mem_of_getElem? (i := 4) rfl))) (mvT hZ (hw _ (List.mem_of_getElem? (i := 5) rfl))) (mvT hZ (hw _ (List.mem_of_getElem? (i := 6) rfl))) (mvT hZ (hw _ (List.mem_of_getElem? (i := 7) rfl))) (by decide) (backOf (W := 0) (rm_valL l Z a0 hw [] ch cs sf h0 n0 Z0 O0 S1 hcs S2 hsf S3 S4 S5 h255) hZ (hw _ (List.mem_of_getElem? (i := 7) rfl)) (hw _ (List.mem_of_getElem? (i := 6) rfl)) (by decide) (by decide)) (g := (mkF m 67 #[.val (.int p1), .val (.int p2), .val (.int ch), .val (.int ch), .val (.int (own_pr ch)), .val (.int (own_ic ch)), .val (.int (own_ic ch)), .unset] [(.int ch)])) rfl (by rw [hml]; rfl) (argsL := [(.int ch)]) (rest := []) (lenOf pd_19 rfl) rfl (by show 2 * 0 + _ ≤ _; exact Nat.le_of_eq rfl) (hb hby at_67) (fun _ _ => ⟨rfl, e1079, (by decide : 0 + 2 ≤ _), (by decide : 0 + 5 ≤ _)⟩)
          dsimp only [Pt.U, Pt.locs, Pt.cells, Pt.slots] at X1082 l1082 y1082 z1082 st1082 hQ1082
          subst l1082 y1082 z1082
          obtain ⟨a1, b1, rfl, N1082q, K1082, OO, E1, Fv, Fc, V1⟩ := hQ1082
          have N1082 := Fr.app N1079 N1082q
          refine go (T' := T1082) (g' := (mkF m 70 #[.val (.int p1), .val (.int p2), .val (.int ch), .val (.int ch), .val (.int (own_pr ch)), .val (.int (own_ic ch)), .val (.int (own_ic ch)), .unset] [(.ref a1)])) st1082 ?_
          have z1082 : n0 ≤ T1082.heap.size := Nat.le_trans Z0 K1082.1
          refine go (T' := T1082) (g' := (mkF m 71 #[.val (.int p1), .val (.int p2), .val (.int ch), .val (.int ch), .val (.int (own_pr ch)), .val (.int (own_ic ch)), .val (.int (own_ic ch)), .unset] [(.int (1 : Int32)), (.ref a1)])) (fun t kt => XS.iconst X1082.here hx rfl (hb hby at_70) kt) ?_
          obtain ⟨hl1, hl2⟩ := own_lat hch0 h255
          have hl3 : nar .char (own_ch (own_b1 ch)) = ch := by rw [hl1]; obtain ⟨x, rfl⟩ := hch; simp only [nar, UInt32.toUInt32_toInt32, UInt16.toUInt16_toUInt32]
          obtain ⟨_, _, ⟨T1083, L1083, k1083, n1083⟩, -, X1083, ⟨Lc1083, hQ1083, l1083, y1083, z1083⟩, st1083⟩ := Jvm.LawKit.callS X1082 hx (y := (⟨"com/example/tallyward/tallyward/model/Codes", "isCode", "(Ljava/lang/String;I)Z"⟩ : MethodName)) hown (mvT hZ (hw _ (List.mem_of_getElem? (i := 30) rfl))) (mvT hZ (hw _ (List.mem_of_getElem? (i := 31) rfl))) (mvT hZ (hw _ (List.mem_of_getElem? (i := 2) rfl))) (mvT hZ (hw _ (List.mem_of_getElem? (i := 32) rfl))) (by decide) (backOf (W := 0) (rm_iscL l Z a0 hw [] a1 1 b1 (own_b1 ch) cs sf T1082.heap n0 z1082 rfl OO S1 hcs S2 hsf S3 S4 S5 E1 Fv Fc V1) hZ (hw _ (List.mem_of_getElem? (i := 32) rfl)) (hw _ (List.mem_of_getElem? (i := 2) rfl)) (by decide) (by decide)) (g := (mkF m 71 #[.val (.int p1), .val (.int p2), .val (.int ch), .val (.int ch), .val (.int (own_pr ch)), .val (.int (own_ic ch)), .val (.int (own_ic ch)), .unset] [(.int (1 : Int32)), (.ref a1)])) rfl (by rw [hml]; rfl) (argsL := [(.ref a1), (.int (1 : Int32))]) (rest := []) (lenOf pd_20 rfl) rfl (by show 2 * 0 + _ ≤ _; exact Nat.le_of_eq rfl) (hb hby at_71) (fun _ _ => ⟨rfl, rfl, (by decide : 2 + 0 ≤ _), (by decide : 5 + 0 ≤ _)⟩)
          dsimp only [Pt.U, Pt.locs, Pt.cells, Pt.slots] at X1083 l1083 y1083 z1083 st1083 hQ1083
          subst l1083 y1083 z1083
          obtain ⟨rfl, N1083q, e1083⟩ := hQ1083
          have N1083 := Fr.app N1082 N1083q
          refine go (T' := T1083) (g' := (mkF m 74 #[.val (.int p1), .val (.int p2), .val (.int ch), .val (.int ch), .val (.int (own_pr ch)), .val (.int (own_ic ch)), .val (.int (own_ic ch)), .unset] [(.int (if own_ab (nar .char (own_ch (own_b1 ch))) = 0 then (0 : Int32) else if (own_b1 ch) = 44 then 0 else 1))])) st1083 ?_
          refine goEq (g' := (mkF m 74 #[.val (.int p1), .val (.int p2), .val (.int ch), .val (.int ch), .val (.int (own_pr ch)), .val (.int (own_ic ch)), .val (.int (own_ic ch)), .unset] [(.int (own_ic ch))])) (by rw [hl3, ← own_ab_ic]; simp only [hl2]) ?_
          refine go (T' := T1083) (g' := (mkF m 76 #[.val (.int p1), .val (.int p2), .val (.int ch), .val (.int ch), .val (.int (own_pr ch)), .val (.int (own_ic ch)), .val (.int (own_ic ch)), .val (.int (own_ic ch))] [])) (fun t kt => XS.istore X1083.here hx rfl (hb hby at_74) rfl (l' := #[.val (.int p1), .val (.int p2), .val (.int ch), .val (.int ch), .val (.int (own_pr ch)), .val (.int (own_ic ch)), .val (.int (own_ic ch)), .val (.int (own_ic ch))]) rfl kt) ?_
          refine go (T' := T1083) (g' := (mkF m 78 #[.val (.int p1), .val (.int p2), .val (.int ch), .val (.int ch), .val (.int (own_pr ch)), .val (.int (own_ic ch)), .val (.int (own_ic ch)), .val (.int (own_ic ch))] [(.int (own_ic ch))])) (fun t kt => XS.iload X1083.here hx rfl (hb hby at_76) rfl kt) ?_
          refine go (T' := T1083) (g' := (mkF m 80 #[.val (.int p1), .val (.int p2), .val (.int ch), .val (.int ch), .val (.int (own_pr ch)), .val (.int (own_ic ch)), .val (.int (own_ic ch)), .val (.int (own_ic ch))] [(.int (own_ic ch)), (.int (own_ic ch))])) (fun t kt => XS.iload X1083.here hx rfl (hb hby at_78) rfl kt) ?_
          refine go (T' := T1083) (g' := (mkF m 83 #[.val (.int p1), .val (.int p2), .val (.int ch), .val (.int ch), .val (.int (own_pr ch)), .val (.int (own_ic ch)), .val (.int (own_ic ch)), .val (.int (own_ic ch))] [])) (fun t kt => XS.icmpNo X1083.here hx rfl (hb hby at_80) rfl (teq (rfl : own_ic ch = _)).2 kt) ?_
          refine go (T' := T1083) (g' := (mkF m 85 #[.val (.int p1), .val (.int p2), .val (.int ch), .val (.int ch), .val (.int (own_pr ch)), .val (.int (own_ic ch)), .val (.int (own_ic ch)), .val (.int (own_ic ch))] [(.int (own_ic ch))])) (fun t kt => XS.iload X1083.here hx rfl (hb hby at_83) rfl kt) ?_
          refine go (T' := T1083) (g' := (mkF m 87 #[.val (.int p1), .val (.int p2), .val (.int ch), .val (.int ch), .val (.int (own_pr ch)), .val (.int (own_ic ch)), .val (.int (own_ic ch)), .val (.int (own_ic ch))] [(.int (own_ic ch)), (.int (own_ic ch))])) (fun t kt => XS.iload X1083.here hx rfl (hb hby at_85) rfl kt) ?_
          refine go (T' := T1083) (g' := (mkF m 90 #[.val (.int p1), .val (.int p2), .val (.int ch), .val (.int ch), .val (.int (own_pr ch)), .val (.int (own_ic ch)), .val (.int (own_ic ch)), .val (.int (own_ic ch))] [])) (fun t kt => XS.icmpNo X1083.here hx rfl (hb hby at_87) rfl (teq (rfl : own_ic ch = _)).2 kt) ?_
          refine go (T' := T1083) (g' := (mkF m 91 #[.val (.int p1), .val (.int p2), .val (.int ch), .val (.int ch), .val (.int (own_pr ch)), .val (.int (own_ic ch)), .val (.int (own_ic ch)), .val (.int (own_ic ch))] [(.int (1 : Int32))])) (fun t kt => XS.iconst X1083.here hx rfl (hb hby at_90) kt) ?_
          refine go (T' := T1083) (g' := (mkF m 95 #[.val (.int p1), .val (.int p2), .val (.int ch), .val (.int ch), .val (.int (own_pr ch)), .val (.int (own_ic ch)), .val (.int (own_ic ch)), .val (.int (own_ic ch))] [(.int (1 : Int32))])) (fun t kt => XS.goto X1083.here hx rfl (pc0 := 91) (pc' := 95) rfl (hb hby at_91) (by decide) (by decide) kt) ?_
          refine goRetN X1083 hx hlk (t := .boolean) Bd.returns (by simp) (hb hby at_95) ?_ (by decide) (by decide)
          rw [e1083]
          exact ⟨rfl, N1083⟩
set_option maxRecDepth 65536 in
set_option maxHeartbeats 40000000 in
theorem comes_1 {Post : Tables → Env → Array Value → State → Outcome → State → Prop} (hpost : ∀ tb e args s v u, (limb_1_1.after args s (.returned v) u = true ∧ limb_1_2.after args s (.returned v) u = true ∧ True) → FrameEnd s (.returned v) u (Jvm.fieldLocs frame_1_writes args s ++ Jvm.arrayLocs frame_1_arrays args s ++ Jvm.staticLocs frame_1_statics s) 16 128 → Post tb e args s (.returned v) u) :
    ArmFor flags0 classFile x code maxLocals ret World_1 tables_1 room_1 Calls_1 rest_1 Pre_1 Post := by
  intro l hfl _ _ p e ha hc hk s m args below hf hA hF happ hP
  obtain ⟨hcalls, hrest, hpre⟩ := hP
  obtain ⟨-, -, -, hnamed, -, -, -, hat⟩ := (Spec.applies_iff hf).mp happ
  obtain ⟨hg, hn⟩ := and_e (Cond.before_iff.mp (show (Jvm.Cond.and given_1 narrow_1).before args s = true from hpre))
  obtain ⟨g2, g2'⟩ := and_e hg
  obtain ⟨g4, g4'⟩ := and_e g2'
  obtain ⟨w0, w1, rfl⟩ : ∃ w0 w1 : Value, args = #[w0, w1] := by
    have hs : args.size = 2 := by simpa [Cond.value, given_1] using g2
    obtain ⟨L⟩ := args
    match L, hs with
    | [w0, w1], _ => exact ⟨w0, w1, rfl⟩
  have hw := fun d (hd : d ∈ tables_1) => atoms_spec (ws := Jvm.Cond.code x code maxLocals ret :: tables_1) hat d (List.mem_cons_of_mem _ hd)
  have hfit : Fit s := fun {y c} hc i hi => by
    obtain ⟨ha, rfl⟩ := Array.getElem?_eq_some_iff.mp hc
    have q := List.all_eq_true.mp ((Array.all_eq_true_iff_forall_mem.mp hF) _ (Array.getElem_mem ha)) i (List.mem_range.mpr hi)
    simpa [Array.getElem?_eq_getElem hi] using q
  obtain ⟨hsets, hown0⟩ := atoms_of _ (rest_1_c_eq ▸ (show rest_1_c.before _ s = true from hrest))
  have hr0 := Cond.before_iff.mp hown0
  obtain ⟨i0, ei0⟩ := is_v g4
  obtain rfl : w0 = (.int i0) := Option.some.inj ei0
  obtain ⟨i1, ei1⟩ := is_v g4'
  obtain rfl : w1 = (.int i1) := Option.some.inj ei1
  obtain ⟨cs, ecs⟩ := is_v (Cond.before_iff.mp (hsets _ (List.mem_of_getElem? (i := 1) rfl)))
  have S1 : Sta s s.heap "java/lang/String" "COMPACT_STRINGS" "Z" (.int cs) := Sta.start ecs (Or.inl (hsets _ (List.mem_of_getElem? (i := 0) rfl)))
  have hcs : ¬ (cs = (0 : Int32)) := gotF (Cond.eq_ints ecs (Term.int_eval (0))) (not_v (Cond.before_iff.mp (hsets _ (List.mem_of_getElem? (i := 2) rfl))))
  obtain ⟨sf, esf, rsf⟩ := isR_v (Cond.before_iff.mp (hsets _ (List.mem_of_getElem? (i := 8) rfl)))
  have S2 : Sta s s.heap "jdk/internal/util/Preconditions" "SIOOBE_FORMATTER" "Ljava/util/function/BiFunction;" sf := Sta.start esf (Or.inl (hsets _ (List.mem_of_getElem? (i := 7) rfl)))
  have S3 := Sta.start (own_eqI (Cond.before_iff.mp (hsets _ (List.mem_of_getElem? (i := 12) rfl)))) (Or.inl (hsets _ (List.mem_of_getElem? (i := 11) rfl)))
  have S4 := Sta.start (own_eqI (Cond.before_iff.mp (hsets _ (List.mem_of_getElem? (i := 15) rfl)))) (Or.inl (hsets _ (List.mem_of_getElem? (i := 14) rfl)))
  have S5 := Sta.start (own_eqI (Cond.before_iff.mp (hsets _ (List.mem_of_getElem? (i := 18) rfl)))) (Or.inl (hsets _ (List.mem_of_getElem? (i := 17) rfl)))
  obtain ⟨n, o, h1, h2, h3, _, L, rfl, ⟨rfl, N⟩, hq⟩ := rm0 l s _ hw tables_1 i0 i1 cs sf s.heap s.heap.size (Nat.le_refl _) (Old.start s) S1 hcs S2 (ref_cases rsf) S3 S4 S5 p e ha hc hk s m _ below hf ((Spec.applies_iff_loose hf).mp happ).1 ⟨rfl, State.Warmed39.refl s, rfl⟩ trivial
  refine ⟨n, _, h1, h2, h3, hpost _ _ _ _ _ _ ⟨Cond.after_iff.mpr rfl, Cond.after_iff.mpr (eq_i res_at (Term.int_eval (1)) rfl), trivial⟩ ⟨hq.1, hq.2.1, (hq.2.2.sift fun y hy => Or.inr (N y hy)).mono (by decide) (by decide)⟩⟩
theorem main_1_1 : Claimed_1_1 := comes_1 fun _ _ _ _ _ _ h hF => ⟨h.1, hF⟩
theorem main_1_2 : Claimed_1_2 := comes_1 fun _ _ _ _ _ _ h hF => ⟨h.2.1, hF⟩
end Jvm.Pilot.@@N@@
namespace Jvm.Pilot.@@N@@
open Jvm Jvm.ClassFile Sem Op Lib Jvm.Free Jvm.Stand Jvm.Pilot.@@N@@.Jvm.D
/-! MADE BY PROGRAM (witnessworld.py) out of the Statement's table words and the real class files: 19 classes; the members and pool entries that the words name. The judged class is class 1, her method 1. -/
namespace start1
open Jvm.ClassFile
def u (s : String) : CpInfo := .utf8 (stringToUtf16 s)
/-- a pool by its gaps: so many unusable entries, then the entry; so many at the end -/
def gap : Nat → List CpInfo → List CpInfo
  | 0, r => r
  | n + 1, r => .unusable :: gap n r
def poolList (es : List (Nat × CpInfo)) (last : Nat) : List CpInfo := es.foldr (fun e r => gap e.1 (e.2 :: r)) (gap last [])
def pool (es : List (Nat × CpInfo)) (last : Nat) : Array CpInfo := ⟨poolList es last⟩
def fileOf (pool : Array CpInfo) (this : Nat) (attrs : Array Attribute := #[]) (ms : Array MethodInfo := #[]) (fl : Nat := 33) (sup : Nat := 0) (ifs : Array Nat := #[]) (fds : Array FieldInfo := #[]) : ClassFile where
  minorVersion := 0
  majorVersion := 65
  constantPool := pool
  accessFlags := fl
  thisClass := this
  superClass := sup
  interfaces := ifs
  fields := fds
  methods := ms
  attributes := attrs
def plain (name : String) (sup : Option ClassId) : Class where
  name := name
  kind := .ordinary
  loader := none
  accessFlags := 33
  super := sup
  interfaces := #[]
  cf := none
  fields := #[]
  methods := #[]
  instanceTypes := #[]
  staticTypes := #[]
  resolved := #[]
  callSites := []
  init := .initialized
  statics := none
  mirror := none

def pool0 : Array CpInfo := pool [(5, u "<init>"), (0, u "()V"), (1, .class_ 10), (1, u "java/lang/Object")] 113

def k0c0 : Code := { maxStack := 0, maxLocals := 1, code := object_method_1_code, exceptionTable := #[], attributes := #[] }
def k0m0 : Method := { name := "<init>", desc := "()V", sig := { parameters := [], returnType := none }, accessFlags := 1, code := some k0c0 }
/-- java/lang/Object -/
def k0 : Class := { plain "java/lang/Object" none with
  accessFlags := 33
  interfaces := #[]
  cf := some (fileOf pool0 8 #[] #[{ accessFlags := 1, nameIndex := 5, descriptorIndex := 6, attributes := #[] }] 33 0 #[] #[])
  fields := #[]
  methods := #[k0m0]
  instanceTypes := #[]
  staticTypes := #[]
  resolved := Array.replicate 124 none
  statics := none }

def pool1 : Array CpInfo := pool [(2, .class_ 4), (1, u "java/lang/Object"), (0, u "<init>"), (0, u "()V"), (0, .integer 65535), (0, .methodref 9 10), (0, .class_ 11), (0, .nameAndType 12 13), (0, u "com/example/tallyward/tallyward/model/Codes"), (0, u "isCode"), (0, u "(C)Z"), (0, .methodref 15 16), (0, .class_ 17), (0, .nameAndType 18 19), (0, u "java/lang/String"), (0, u "valueOf"), (0, u "(C)Ljava/lang/String;"), (0, .methodref 9 21), (0, .nameAndType 12 22), (0, u "(Ljava/lang/String;I)Z"), (0, .class_ 24), (0, u "com/example/tallyward/tallyward/model/CodesIsCodePinLaw"), (2, u "law"), (0, u "(II)Z")] 3

def k1m0 : Method := { name := "<init>", desc := "()V", sig := { parameters := [], returnType := none }, accessFlags := 2, code := none }
def k1c1 : Code := { maxStack := 2, maxLocals := 8, code := code, exceptionTable := #[], attributes := #[] }
def k1m1 : Method := { name := "law", desc := "(II)Z", sig := { parameters := [.int, .int], returnType := some .boolean }, accessFlags := 9, code := some k1c1 }
/-- com/example/tallyward/tallyward/model/CodesIsCodePinLaw -/
def k1 : Class := { plain "com/example/tallyward/tallyward/model/CodesIsCodePinLaw" (some 0) with
  accessFlags := 49
  interfaces := #[]
  cf := some (fileOf pool1 23 #[] #[{ accessFlags := 2, nameIndex := 5, descriptorIndex := 6, attributes := #[] }, { accessFlags := 9, nameIndex := 27, descriptorIndex := 28, attributes := #[] }] 49 2 #[] #[])
  fields := #[]
  methods := #[k1m0, k1m1]
  instanceTypes := #[]
  staticTypes := #[]
  resolved := Array.replicate 32 none
  statics := none }

def pool2 : Array CpInfo := pool [(2, .class_ 4), (1, u "java/lang/Object"), (0, u "<init>"), (0, u "()V"), (0, .methodref 8 9), (0, .class_ 10), (0, .nameAndType 11 12), (0, u "java/lang/String"), (0, u "length"), (0, u "()I"), (1, .class_ 16), (1, u "com/example/tallyward/tallyward/model/Codes"), (1, u "(Ljava/lang/String;)Z"), (0, .methodref 8 20), (0, .nameAndType 21 22), (0, u "charAt"), (0, u "(I)C"), (4, .methodref 14 28), (0, .nameAndType 29 30), (0, u "allBetween"), (0, u "(Ljava/lang/String;CC)Z"), (0, .methodref 14 32), (0, .nameAndType 33 18), (0, u "isToken"), (0, .methodref 8 35), (0, .nameAndType 36 37), (0, u "indexOf"), (0, u "(I)I"), (11, u "()Z"), (6, .methodref 8 57), (0, .nameAndType 58 49), (0, u "isEmpty"), (16, u "SUPPLY_CONDITION_CODES"), (0, u "Ljava/lang/String;"), (1, u "NO_CONDITION"), (0, u "C"), (1, u "INVENTORY_INCREASE"), (6, u "(C)Z"), (1, u "isCode"), (0, u "(Ljava/lang/String;I)Z")] 6

def k2m0 : Method := { name := "<init>", desc := "()V", sig := { parameters := [], returnType := none }, accessFlags := 2, code := none }
def k2c1 : Code := { maxStack := 2, maxLocals := 2, code := prog_116_method_7_code, exceptionTable := #[], attributes := #[] }
def k2m1 : Method := { name := "isCode", desc := "(Ljava/lang/String;I)Z", sig := { parameters := [(.object "java/lang/String"), .int], returnType := some .boolean }, accessFlags := 9, code := some k2c1 }
def k2c2 : Code := { maxStack := 2, maxLocals := 1, code := prog_116_method_8_code, exceptionTable := #[], attributes := #[] }
def k2m2 : Method := { name := "isCode", desc := "(C)Z", sig := { parameters := [.char], returnType := some .boolean }, accessFlags := 9, code := some k2c2 }
def k2c3 : Code := { maxStack := 3, maxLocals := 1, code := prog_116_method_11_code, exceptionTable := #[], attributes := #[] }
def k2m3 : Method := { name := "isToken", desc := "(Ljava/lang/String;)Z", sig := { parameters := [(.object "java/lang/String")], returnType := some .boolean }, accessFlags := 9, code := some k2c3 }
def k2c4 : Code := { maxStack := 2, maxLocals := 5, code := prog_116_method_14_code, exceptionTable := #[], attributes := #[] }
def k2m4 : Method := { name := "allBetween", desc := "(Ljava/lang/String;CC)Z", sig := { parameters := [(.object "java/lang/String"), .char, .char], returnType := some .boolean }, accessFlags := 10, code := some k2c4 }
/-- com/example/tallyward/tallyward/model/Codes -/
def k2 : Class := { plain "com/example/tallyward/tallyward/model/Codes" (some 0) with
  accessFlags := 49
  interfaces := #[]
  cf := some (fileOf pool2 14 #[] #[{ accessFlags := 2, nameIndex := 5, descriptorIndex := 6, attributes := #[] }, { accessFlags := 9, nameIndex := 90, descriptorIndex := 91, attributes := #[] }, { accessFlags := 9, nameIndex := 90, descriptorIndex := 88, attributes := #[] }, { accessFlags := 9, nameIndex := 33, descriptorIndex := 18, attributes := #[] }, { accessFlags := 10, nameIndex := 29, descriptorIndex := 30, attributes := #[] }] 49 2 #[] #[{ accessFlags := 25, nameIndex := 75, descriptorIndex := 76, attributes := #[] }, { accessFlags := 25, nameIndex := 78, descriptorIndex := 79, attributes := #[] }, { accessFlags := 26, nameIndex := 81, descriptorIndex := 76, attributes := #[] }])
  fields := #[{ name := "SUPPLY_CONDITION_CODES", type := (.object "java/lang/String"), accessFlags := 25, slot := 0, constantValue := 0 }, { name := "NO_CONDITION", type := .char, accessFlags := 25, slot := 1, constantValue := 0 }, { name := "INVENTORY_INCREASE", type := (.object "java/lang/String"), accessFlags := 26, slot := 2, constantValue := 0 }]
  methods := #[k2m0, k2m1, k2m2, k2m3, k2m4]
  instanceTypes := #[]
  staticTypes := #[(.object "java/lang/String"), .char, (.object "java/lang/String")]
  resolved := Array.replicate 98 none
  statics := none }

def pool3 : Array CpInfo := pool [(1, .class_ 2), (0, u "java/io/Serializable"), (0, .class_ 4), (0, u "java/lang/Object")] 2

/-- java/io/Serializable -/
def k3 : Class := { plain "java/io/Serializable" (some 0) with
  accessFlags := 1537
  interfaces := #[]
  cf := some (fileOf pool3 1 #[] #[] 1537 3 #[] #[])
  fields := #[]
  methods := #[]
  instanceTypes := #[]
  staticTypes := #[]
  resolved := Array.replicate 7 none
  statics := none }

def pool4 : Array CpInfo := pool [(1, .class_ 2), (0, u "java/lang/Comparable"), (0, .class_ 4), (0, u "java/lang/Object")] 7

/-- java/lang/Comparable -/
def k4 : Class := { plain "java/lang/Comparable" (some 0) with
  accessFlags := 1537
  interfaces := #[]
  cf := some (fileOf pool4 1 #[] #[] 1537 3 #[] #[])
  fields := #[]
  methods := #[]
  instanceTypes := #[]
  staticTypes := #[]
  resolved := Array.replicate 12 none
  statics := none }

def pool5 : Array CpInfo := pool [(2, .class_ 4), (1, u "java/lang/CharSequence"), (42, .class_ 48), (0, u "java/lang/CharSequence$1CodePointIterator"), (10, .class_ 60), (0, u "java/lang/CharSequence$1CharIterator"), (5, .class_ 67), (0, u "java/lang/Object")] 63

/-- java/lang/CharSequence -/
def k5 : Class := { plain "java/lang/CharSequence" (some 0) with
  accessFlags := 1537
  interfaces := #[]
  cf := some (fileOf pool5 2 #[.nestMembers #[47, 59]] #[] 1537 66 #[] #[])
  fields := #[]
  methods := #[]
  instanceTypes := #[]
  staticTypes := #[]
  resolved := Array.replicate 131 none
  statics := none }

def pool6 : Array CpInfo := pool [(1, .class_ 2), (0, u "java/lang/constant/Constable"), (0, .class_ 4), (0, u "java/lang/Object")] 6

/-- java/lang/constant/Constable -/
def k6 : Class := { plain "java/lang/constant/Constable" (some 0) with
  accessFlags := 1537
  interfaces := #[]
  cf := some (fileOf pool6 1 #[] #[] 1537 3 #[] #[])
  fields := #[]
  methods := #[]
  instanceTypes := #[]
  staticTypes := #[]
  resolved := Array.replicate 11 none
  statics := none }

def pool7 : Array CpInfo := pool [(1, .class_ 2), (0, u "java/lang/constant/ConstantDesc"), (0, .class_ 4), (0, u "java/lang/Object")] 32

/-- java/lang/constant/ConstantDesc -/
def k7 : Class := { plain "java/lang/constant/ConstantDesc" (some 0) with
  accessFlags := 1537
  interfaces := #[]
  cf := some (fileOf pool7 1 #[] #[] 1537 3 #[] #[])
  fields := #[]
  methods := #[]
  instanceTypes := #[]
  staticTypes := #[]
  resolved := Array.replicate 37 none
  statics := none }

def pool8 : Array CpInfo := pool [(1, .methodref 2 3), (0, .class_ 4), (0, .nameAndType 5 6), (0, u "java/lang/Object"), (0, u "<init>"), (0, u "()V"), (2, .fieldref 10 11), (0, .class_ 12), (0, .nameAndType 13 14), (0, u "java/lang/String"), (0, u "value"), (0, u "[B"), (0, .fieldref 10 16), (0, .nameAndType 17 18), (0, u "coder"), (0, u "B"), (2, u "hash"), (0, u "I"), (2, u "hashIsZero"), (0, u "Z"), (11, .fieldref 10 39), (0, .nameAndType 40 26), (0, u "COMPACT_STRINGS"), (1, .class_ 44), (1, u "java/lang/StringUTF16"), (8, u "toBytes"), (53, .class_ 109), (1, u "java/lang/StringLatin1"), (32, u "()Z"), (66, .methodref 10 210), (0, .nameAndType 5 211), (0, u "([BB)V"), (122, u "()I"), (0, .methodref 10 336), (0, .nameAndType 17 337), (0, u "()B"), (25, u "([BI)C"), (5, u "(C)Z"), (21, u "(II)V"), (35, u "(I)C"), (64, .methodref 10 493), (0, .nameAndType 494 142), (0, u "isLatin1"), (0, .methodref 107 496), (0, .nameAndType 497 363), (0, u "charAt"), (0, .methodref 42 496), (2, u "checkIndex"), (3, .methodref 10 506), (0, .nameAndType 507 334), (0, u "length"), (67, .class_ 576), (0, u "java/lang/CharSequence"), (22, u "CASE_INSENSITIVE_ORDER"), (0, u "Ljava/util/Comparator;"), (32, .methodref 10 634), (0, .nameAndType 635 636), (0, u "indexOf"), (0, u "(II)I"), (0, .methodref 107 638), (0, .nameAndType 635 639), (0, u "([BIII)I"), (52, u "isEmpty"), (72, u "(I)I"), (16, u "valueOf"), (0, u "(C)Ljava/lang/String;"), (231, .methodref 107 1016), (0, .nameAndType 1017 369), (0, u "canEncode"), (0, .methodref 107 1019), (0, .nameAndType 53 1020), (0, u "(C)[B"), (0, .methodref 42 1019), (31, .fieldref 1054 1055), (0, .class_ 1056), (0, .nameAndType 1057 1058), (0, u "jdk/internal/util/Preconditions"), (0, u "SIOOBE_FORMATTER"), (0, u "Ljava/util/function/BiFunction;"), (0, .methodref 1054 1060), (0, .nameAndType 501 1061), (0, u "(IILjava/util/function/BiFunction;)I"), (39, u "serialPersistentFields"), (0, u "[Ljava/io/ObjectStreamField;"), (0, .class_ 1104), (0, u "java/lang/String$CaseInsensitiveComparator"), (1, .class_ 1107), (0, u "java/io/Serializable"), (0, .class_ 1109), (0, u "java/lang/Comparable"), (0, .class_ 1111), (0, u "java/lang/constant/Constable"), (0, .class_ 1113), (0, u "java/lang/constant/ConstantDesc"), (2, u "serialVersionUID"), (0, u "J"), (3, u "REPL"), (0, u "C"), (2, u "LATIN1"), (1, u "UTF16")] 323

def k8m0 : Method := { name := "<init>", desc := "()V", sig := { parameters := [], returnType := none }, accessFlags := 1, code := none }
def k8c1 : Code := { maxStack := 2, maxLocals := 1, code := jdk_42_method_54_code, exceptionTable := #[], attributes := #[] }
def k8m1 : Method := { name := "length", desc := "()I", sig := { parameters := [], returnType := some .int }, accessFlags := 1, code := some k8c1 }
def k8c2 : Code := { maxStack := 1, maxLocals := 1, code := jdk_42_method_55_code, exceptionTable := #[], attributes := #[] }
def k8m2 : Method := { name := "isEmpty", desc := "()Z", sig := { parameters := [], returnType := some .boolean }, accessFlags := 1, code := some k8c2 }
def k8c3 : Code := { maxStack := 2, maxLocals := 2, code := jdk_42_method_56_code, exceptionTable := #[], attributes := #[] }
def k8m3 : Method := { name := "charAt", desc := "(I)C", sig := { parameters := [.int], returnType := some .char }, accessFlags := 1, code := some k8c3 }
def k8c4 : Code := { maxStack := 3, maxLocals := 2, code := jdk_42_method_79_code, exceptionTable := #[], attributes := #[] }
def k8m4 : Method := { name := "indexOf", desc := "(I)I", sig := { parameters := [.int], returnType := some .int }, accessFlags := 1, code := some k8c4 }
def k8c5 : Code := { maxStack := 4, maxLocals := 3, code := jdk_42_method_80_code, exceptionTable := #[], attributes := #[] }
def k8m5 : Method := { name := "indexOf", desc := "(II)I", sig := { parameters := [.int, .int], returnType := some .int }, accessFlags := 1, code := some k8c5 }
def k8c6 : Code := { maxStack := 4, maxLocals := 1, code := jdk_42_method_139_code, exceptionTable := #[], attributes := #[] }
def k8m6 : Method := { name := "valueOf", desc := "(C)Ljava/lang/String;", sig := { parameters := [.char], returnType := some (.object "java/lang/String") }, accessFlags := 9, code := some k8c6 }
def k8c7 : Code := { maxStack := 2, maxLocals := 3, code := jdk_42_method_151_code, exceptionTable := #[], attributes := #[] }
def k8m7 : Method := { name := "<init>", desc := "([BB)V", sig := { parameters := [(.array .byte), .byte], returnType := none }, accessFlags := 0, code := some k8c7 }
def k8c8 : Code := { maxStack := 1, maxLocals := 1, code := jdk_42_method_152_code, exceptionTable := #[], attributes := #[] }
def k8m8 : Method := { name := "coder", desc := "()B", sig := { parameters := [], returnType := some .byte }, accessFlags := 0, code := some k8c8 }
def k8c9 : Code := { maxStack := 1, maxLocals := 1, code := jdk_42_method_154_code, exceptionTable := #[], attributes := #[] }
def k8m9 : Method := { name := "isLatin1", desc := "()Z", sig := { parameters := [], returnType := some .boolean }, accessFlags := 0, code := some k8c9 }
def k8c10 : Code := { maxStack := 3, maxLocals := 2, code := jdk_42_method_155_code, exceptionTable := #[], attributes := #[] }
def k8m10 : Method := { name := "checkIndex", desc := "(II)V", sig := { parameters := [.int, .int], returnType := none }, accessFlags := 8, code := some k8c10 }
/-- java/lang/String -/
def k8 : Class := { plain "java/lang/String" (some 0) with
  accessFlags := 49
  interfaces := #[3, 4, 5, 6, 7]
  cf := some (fileOf pool8 10 #[.nestMembers #[1103]] #[{ accessFlags := 1, nameIndex := 5, descriptorIndex := 6, attributes := #[] }, { accessFlags := 1, nameIndex := 507, descriptorIndex := 334, attributes := #[] }, { accessFlags := 1, nameIndex := 692, descriptorIndex := 142, attributes := #[] }, { accessFlags := 1, nameIndex := 497, descriptorIndex := 427, attributes := #[] }, { accessFlags := 1, nameIndex := 635, descriptorIndex := 765, attributes := #[] }, { accessFlags := 1, nameIndex := 635, descriptorIndex := 636, attributes := #[] }, { accessFlags := 9, nameIndex := 782, descriptorIndex := 783, attributes := #[] }, { accessFlags := 0, nameIndex := 5, descriptorIndex := 211, attributes := #[] }, { accessFlags := 0, nameIndex := 17, descriptorIndex := 337, attributes := #[] }, { accessFlags := 0, nameIndex := 494, descriptorIndex := 142, attributes := #[] }, { accessFlags := 8, nameIndex := 501, descriptorIndex := 391, attributes := #[] }] 49 2 #[1106, 1108, 575, 1110, 1112] #[{ accessFlags := 18, nameIndex := 13, descriptorIndex := 14, attributes := #[] }, { accessFlags := 18, nameIndex := 17, descriptorIndex := 18, attributes := #[] }, { accessFlags := 2, nameIndex := 21, descriptorIndex := 22, attributes := #[] }, { accessFlags := 2, nameIndex := 25, descriptorIndex := 26, attributes := #[] }, { accessFlags := 26, nameIndex := 1116, descriptorIndex := 1117, attributes := #[] }, { accessFlags := 24, nameIndex := 40, descriptorIndex := 26, attributes := #[] }, { accessFlags := 26, nameIndex := 1101, descriptorIndex := 1102, attributes := #[] }, { accessFlags := 26, nameIndex := 1121, descriptorIndex := 1122, attributes := #[] }, { accessFlags := 25, nameIndex := 599, descriptorIndex := 600, attributes := #[] }, { accessFlags := 24, nameIndex := 1125, descriptorIndex := 18, attributes := #[] }, { accessFlags := 24, nameIndex := 1127, descriptorIndex := 18, attributes := #[] }])
  fields := #[{ name := "value", type := (.array .byte), accessFlags := 18, slot := 0, constantValue := 0 }, { name := "coder", type := .byte, accessFlags := 18, slot := 1, constantValue := 0 }, { name := "hash", type := .int, accessFlags := 2, slot := 2, constantValue := 0 }, { name := "hashIsZero", type := .boolean, accessFlags := 2, slot := 3, constantValue := 0 }, { name := "serialVersionUID", type := .long, accessFlags := 26, slot := 0, constantValue := 0 }, { name := "COMPACT_STRINGS", type := .boolean, accessFlags := 24, slot := 1, constantValue := 0 }, { name := "serialPersistentFields", type := (.array (.object "java/io/ObjectStreamField")), accessFlags := 26, slot := 2, constantValue := 0 }, { name := "REPL", type := .char, accessFlags := 26, slot := 3, constantValue := 0 }, { name := "CASE_INSENSITIVE_ORDER", type := (.object "java/util/Comparator"), accessFlags := 25, slot := 4, constantValue := 0 }, { name := "LATIN1", type := .byte, accessFlags := 24, slot := 5, constantValue := 0 }, { name := "UTF16", type := .byte, accessFlags := 24, slot := 6, constantValue := 0 }]
  methods := #[k8m0, k8m1, k8m2, k8m3, k8m4, k8m5, k8m6, k8m7, k8m8, k8m9, k8m10]
  instanceTypes := #[(.array .byte), .byte, .int, .boolean]
  staticTypes := #[.long, .boolean, (.array (.object "java/io/ObjectStreamField")), .char, (.object "java/util/Comparator"), .byte, .byte]
  resolved := Array.replicate 1451 none
  statics := some 0 }

def pool9 : Array CpInfo := pool [(1, .class_ 2), (0, u "java/lang/String"), (1, .class_ 6), (1, u "java/lang/Object"), (0, u "<init>"), (0, u "()V"), (0, .methodref 1 10), (0, .nameAndType 11 12), (0, u "checkIndex"), (0, u "(II)V"), (1, .class_ 16), (1, u "java/lang/StringLatin1"), (21, .methodref 39 40), (0, .class_ 41), (0, .nameAndType 42 43), (0, u "java/lang/Math"), (0, u "min"), (0, u "(II)I"), (9, u "([BI)C"), (34, .methodref 14 89), (0, .nameAndType 90 91), (0, u "canEncode"), (0, u "(I)Z"), (0, .methodref 39 93), (0, .nameAndType 94 43), (0, u "max"), (0, .methodref 14 96), (0, .nameAndType 97 98), (0, u "indexOfChar"), (0, u "([BIII)I"), (2, u "indexOf"), (3, u "(C)Z"), (15, u "$assertionsDisabled"), (0, u "Z"), (98, .class_ 223), (1, u "java/lang/StringLatin1$LinesSpliterator"), (28, u "charAt"), (127, u "toBytes"), (1, u "(C)[B"), (7, .class_ 391), (0, u "java/lang/StringLatin1$CharsSpliterator")] 3

def k9m0 : Method := { name := "<init>", desc := "()V", sig := { parameters := [], returnType := none }, accessFlags := 0, code := none }
def k9c1 : Code := { maxStack := 2, maxLocals := 2, code := jdk_43_method_2_code, exceptionTable := #[], attributes := #[] }
def k9m1 : Method := { name := "charAt", desc := "([BI)C", sig := { parameters := [(.array .byte), .int], returnType := some .char }, accessFlags := 9, code := some k9c1 }
def k9c2 : Code := { maxStack := 2, maxLocals := 1, code := jdk_43_method_3_code, exceptionTable := #[], attributes := #[] }
def k9m2 : Method := { name := "canEncode", desc := "(C)Z", sig := { parameters := [.char], returnType := some .boolean }, accessFlags := 9, code := some k9c2 }
def k9c3 : Code := { maxStack := 2, maxLocals := 1, code := jdk_43_method_4_code, exceptionTable := #[], attributes := #[] }
def k9m3 : Method := { name := "canEncode", desc := "(I)Z", sig := { parameters := [.int], returnType := some .boolean }, accessFlags := 9, code := some k9c3 }
def k9c4 : Code := { maxStack := 4, maxLocals := 4, code := jdk_43_method_22_code, exceptionTable := #[], attributes := #[] }
def k9m4 : Method := { name := "indexOf", desc := "([BIII)I", sig := { parameters := [(.array .byte), .int, .int, .int], returnType := some .int }, accessFlags := 9, code := some k9c4 }
def k9c5 : Code := { maxStack := 2, maxLocals := 6, code := jdk_43_method_23_code, exceptionTable := #[], attributes := #[] }
def k9m5 : Method := { name := "indexOfChar", desc := "([BIII)I", sig := { parameters := [(.array .byte), .int, .int, .int], returnType := some .int }, accessFlags := 10, code := some k9c5 }
def k9c6 : Code := { maxStack := 4, maxLocals := 1, code := jdk_43_method_46_code, exceptionTable := #[], attributes := #[] }
def k9m6 : Method := { name := "toBytes", desc := "(C)[B", sig := { parameters := [.char], returnType := some (.array .byte) }, accessFlags := 9, code := some k9c6 }
/-- java/lang/StringLatin1 -/
def k9 : Class := { plain "java/lang/StringLatin1" (some 0) with
  accessFlags := 48
  interfaces := #[]
  cf := some (fileOf pool9 14 #[.nestMembers #[390, 221]] #[{ accessFlags := 0, nameIndex := 7, descriptorIndex := 8, attributes := #[] }, { accessFlags := 9, nameIndex := 252, descriptorIndex := 53, attributes := #[] }, { accessFlags := 9, nameIndex := 90, descriptorIndex := 105, attributes := #[] }, { accessFlags := 9, nameIndex := 90, descriptorIndex := 91, attributes := #[] }, { accessFlags := 9, nameIndex := 101, descriptorIndex := 98, attributes := #[] }, { accessFlags := 10, nameIndex := 97, descriptorIndex := 98, attributes := #[] }, { accessFlags := 9, nameIndex := 380, descriptorIndex := 382, attributes := #[] }] 48 4 #[] #[{ accessFlags := 4120, nameIndex := 121, descriptorIndex := 122, attributes := #[] }])
  fields := #[{ name := "$assertionsDisabled", type := .boolean, accessFlags := 4120, slot := 0, constantValue := 0 }]
  methods := #[k9m0, k9m1, k9m2, k9m3, k9m4, k9m5, k9m6]
  instanceTypes := #[]
  staticTypes := #[.boolean]
  resolved := Array.replicate 395 none
  statics := none }

def pool10 : Array CpInfo := pool [(2, .class_ 4), (1, u "java/lang/Object"), (0, u "<init>"), (0, u "()V"), (17, .class_ 26), (1, u "jdk/internal/util/Preconditions"), (6, u "checkIndex"), (21, .class_ 56), (0, u "jdk/internal/util/Preconditions$4"), (57, .class_ 115), (0, u "jdk/internal/util/Preconditions$1"), (7, u "SIOOBE_FORMATTER"), (0, u "Ljava/util/function/BiFunction;"), (0, .class_ 126), (0, u "jdk/internal/util/Preconditions$2"), (3, u "AIOOBE_FORMATTER"), (0, .class_ 132), (0, u "jdk/internal/util/Preconditions$3"), (3, u "IOOBE_FORMATTER"), (41, u "(IILjava/util/function/BiFunction;)I")] 15

def k10m0 : Method := { name := "<init>", desc := "()V", sig := { parameters := [], returnType := none }, accessFlags := 1, code := none }
def k10c1 : Code := { maxStack := 3, maxLocals := 3, code := jdk_41_method_11_code, exceptionTable := #[], attributes := #[] }
def k10m1 : Method := { name := "checkIndex", desc := "(IILjava/util/function/BiFunction;)I", sig := { parameters := [.int, .int, (.object "java/util/function/BiFunction")], returnType := some .int }, accessFlags := 9, code := some k10c1 }
/-- jdk/internal/util/Preconditions -/
def k10 : Class := { plain "jdk/internal/util/Preconditions" (some 0) with
  accessFlags := 33
  interfaces := #[]
  cf := some (fileOf pool10 24 #[.nestMembers #[55, 131, 125, 114]] #[{ accessFlags := 1, nameIndex := 5, descriptorIndex := 6, attributes := #[] }, { accessFlags := 9, nameIndex := 33, descriptorIndex := 178, attributes := #[] }] 33 2 #[] #[{ accessFlags := 25, nameIndex := 123, descriptorIndex := 124, attributes := #[] }, { accessFlags := 25, nameIndex := 130, descriptorIndex := 124, attributes := #[] }, { accessFlags := 25, nameIndex := 136, descriptorIndex := 124, attributes := #[] }])
  fields := #[{ name := "SIOOBE_FORMATTER", type := (.object "java/util/function/BiFunction"), accessFlags := 25, slot := 0, constantValue := 0 }, { name := "AIOOBE_FORMATTER", type := (.object "java/util/function/BiFunction"), accessFlags := 25, slot := 1, constantValue := 0 }, { name := "IOOBE_FORMATTER", type := (.object "java/util/function/BiFunction"), accessFlags := 25, slot := 2, constantValue := 0 }]
  methods := #[k10m0, k10m1]
  instanceTypes := #[]
  staticTypes := #[(.object "java/util/function/BiFunction"), (.object "java/util/function/BiFunction"), (.object "java/util/function/BiFunction")]
  resolved := Array.replicate 194 none
  statics := some 1 }

def pool11 : Array CpInfo := pool [(1, .class_ 2), (0, u "java/lang/Math"), (1, .class_ 6), (1, u "java/lang/Object"), (0, u "<init>"), (0, u "()V"), (89, .class_ 100), (1, u "java/lang/Math$RandomNumberGeneratorHolder"), (71, u "negativeZeroFloatBits"), (0, u "J"), (2, u "negativeZeroDoubleBits"), (21, u "max"), (2, u "min"), (43, u "$assertionsDisabled"), (0, u "Z"), (88, u "(II)I"), (2, u "twoToTheDoubleScaleDown"), (0, u "D"), (4, u "twoToTheDoubleScaleUp"), (9, u "E"), (3, u "PI"), (2, u "TAU"), (2, u "DEGREES_TO_RADIANS"), (0, u "RADIANS_TO_DEGREES")] 94

def k11m0 : Method := { name := "<init>", desc := "()V", sig := { parameters := [], returnType := none }, accessFlags := 2, code := none }
def k11c1 : Code := { maxStack := 2, maxLocals := 2, code := jdk_29_method_65_code, exceptionTable := #[], attributes := #[] }
def k11m1 : Method := { name := "max", desc := "(II)I", sig := { parameters := [.int, .int], returnType := some .int }, accessFlags := 9, code := some k11c1 }
def k11c2 : Code := { maxStack := 2, maxLocals := 2, code := jdk_29_method_69_code, exceptionTable := #[], attributes := #[] }
def k11m2 : Method := { name := "min", desc := "(II)I", sig := { parameters := [.int, .int], returnType := some .int }, accessFlags := 9, code := some k11c2 }
/-- java/lang/Math -/
def k11 : Class := { plain "java/lang/Math" (some 0) with
  accessFlags := 49
  interfaces := #[]
  cf := some (fileOf pool11 1 #[.nestMembers #[98]] #[{ accessFlags := 2, nameIndex := 7, descriptorIndex := 8, attributes := #[] }, { accessFlags := 9, nameIndex := 198, descriptorIndex := 335, attributes := #[] }, { accessFlags := 9, nameIndex := 201, descriptorIndex := 335, attributes := #[] }] 49 4 #[] #[{ accessFlags := 25, nameIndex := 354, descriptorIndex := 339, attributes := #[] }, { accessFlags := 25, nameIndex := 358, descriptorIndex := 339, attributes := #[] }, { accessFlags := 25, nameIndex := 361, descriptorIndex := 339, attributes := #[] }, { accessFlags := 26, nameIndex := 364, descriptorIndex := 339, attributes := #[] }, { accessFlags := 26, nameIndex := 365, descriptorIndex := 339, attributes := #[] }, { accessFlags := 26, nameIndex := 172, descriptorIndex := 173, attributes := #[] }, { accessFlags := 26, nameIndex := 176, descriptorIndex := 173, attributes := #[] }, { accessFlags := 8, nameIndex := 344, descriptorIndex := 339, attributes := #[] }, { accessFlags := 8, nameIndex := 338, descriptorIndex := 339, attributes := #[] }, { accessFlags := 4120, nameIndex := 245, descriptorIndex := 246, attributes := #[] }])
  fields := #[{ name := "E", type := .double, accessFlags := 25, slot := 0, constantValue := 0 }, { name := "PI", type := .double, accessFlags := 25, slot := 1, constantValue := 0 }, { name := "TAU", type := .double, accessFlags := 25, slot := 2, constantValue := 0 }, { name := "DEGREES_TO_RADIANS", type := .double, accessFlags := 26, slot := 3, constantValue := 0 }, { name := "RADIANS_TO_DEGREES", type := .double, accessFlags := 26, slot := 4, constantValue := 0 }, { name := "negativeZeroFloatBits", type := .long, accessFlags := 26, slot := 5, constantValue := 0 }, { name := "negativeZeroDoubleBits", type := .long, accessFlags := 26, slot := 6, constantValue := 0 }, { name := "twoToTheDoubleScaleUp", type := .double, accessFlags := 8, slot := 7, constantValue := 0 }, { name := "twoToTheDoubleScaleDown", type := .double, accessFlags := 8, slot := 8, constantValue := 0 }, { name := "$assertionsDisabled", type := .boolean, accessFlags := 4120, slot := 9, constantValue := 0 }]
  methods := #[k11m0, k11m1, k11m2]
  instanceTypes := #[]
  staticTypes := #[.double, .double, .double, .double, .double, .long, .long, .double, .double, .boolean]
  resolved := Array.replicate 460 none
  statics := none }

def pool12 : Array CpInfo := pool [(3, .class_ 4), (0, u "java/lang/String"), (1, .class_ 8), (1, u "java/lang/Object"), (0, u "<init>"), (0, u "()V"), (1, .class_ 14), (1, u "java/lang/StringUTF16"), (29, .fieldref 12 45), (0, .nameAndType 46 47), (0, u "$assertionsDisabled"), (0, u "Z"), (0, .methodref 12 49), (0, .nameAndType 50 51), (0, u "length"), (0, u "([B)I"), (7, .fieldref 12 60), (0, .nameAndType 61 62), (0, u "HI_BYTE_SHIFT"), (0, u "I"), (0, .fieldref 12 64), (0, .nameAndType 65 62), (0, u "LO_BYTE_SHIFT"), (1, .methodref 12 68), (0, .nameAndType 69 70), (0, u "checkIndex"), (0, u "(I[B)V"), (0, .methodref 12 72), (0, .nameAndType 73 74), (0, u "getChar"), (0, u "([BI)C"), (36, .methodref 12 112), (0, .nameAndType 113 114), (0, u "putChar"), (0, u "([BII)V"), (6, u "toBytes"), (247, .class_ 371), (1, u "java/lang/StringUTF16$LinesSpliterator"), (20, u "charAt"), (21, .methodref 3 415), (0, .nameAndType 69 416), (0, u "(II)V"), (13, u "MAX_LENGTH"), (44, u "(C)[B"), (151, .class_ 628), (0, u "java/lang/StringUTF16$CodePointsSpliterator"), (0, .class_ 630), (0, u "java/lang/StringUTF16$CharsSpliterator")] 4

def k12m0 : Method := { name := "<init>", desc := "()V", sig := { parameters := [], returnType := none }, accessFlags := 0, code := none }
def k12c1 : Code := { maxStack := 4, maxLocals := 3, code := jdk_52_method_4_code, exceptionTable := #[], attributes := #[] }
def k12m1 : Method := { name := "putChar", desc := "([BII)V", sig := { parameters := [(.array .byte), .int, .int], returnType := none }, accessFlags := 8, code := some k12c1 }
def k12c2 : Code := { maxStack := 3, maxLocals := 2, code := jdk_52_method_5_code, exceptionTable := #[], attributes := #[] }
def k12m2 : Method := { name := "getChar", desc := "([BI)C", sig := { parameters := [(.array .byte), .int], returnType := some .char }, accessFlags := 8, code := some k12c2 }
def k12c3 : Code := { maxStack := 2, maxLocals := 1, code := jdk_52_method_6_code, exceptionTable := #[], attributes := #[] }
def k12m3 : Method := { name := "length", desc := "([B)I", sig := { parameters := [(.array .byte)], returnType := some .int }, accessFlags := 9, code := some k12c3 }
def k12c4 : Code := { maxStack := 3, maxLocals := 2, code := jdk_52_method_24_code, exceptionTable := #[], attributes := #[] }
def k12m4 : Method := { name := "toBytes", desc := "(C)[B", sig := { parameters := [.char], returnType := some (.array .byte) }, accessFlags := 9, code := some k12c4 }
def k12c5 : Code := { maxStack := 2, maxLocals := 2, code := jdk_52_method_83_code, exceptionTable := #[], attributes := #[] }
def k12m5 : Method := { name := "charAt", desc := "([BI)C", sig := { parameters := [(.array .byte), .int], returnType := some .char }, accessFlags := 9, code := some k12c5 }
def k12c6 : Code := { maxStack := 2, maxLocals := 2, code := jdk_52_method_91_code, exceptionTable := #[], attributes := #[] }
def k12m6 : Method := { name := "checkIndex", desc := "(I[B)V", sig := { parameters := [.int, (.array .byte)], returnType := none }, accessFlags := 9, code := some k12c6 }
/-- java/lang/StringUTF16 -/
def k12 : Class := { plain "java/lang/StringUTF16" (some 0) with
  accessFlags := 48
  interfaces := #[]
  cf := some (fileOf pool12 12 #[.nestMembers #[627, 629, 369]] #[{ accessFlags := 0, nameIndex := 9, descriptorIndex := 10, attributes := #[] }, { accessFlags := 8, nameIndex := 113, descriptorIndex := 114, attributes := #[] }, { accessFlags := 8, nameIndex := 73, descriptorIndex := 74, attributes := #[] }, { accessFlags := 9, nameIndex := 50, descriptorIndex := 51, attributes := #[] }, { accessFlags := 9, nameIndex := 121, descriptorIndex := 475, attributes := #[] }, { accessFlags := 9, nameIndex := 392, descriptorIndex := 74, attributes := #[] }, { accessFlags := 9, nameIndex := 69, descriptorIndex := 70, attributes := #[] }] 48 6 #[] #[{ accessFlags := 26, nameIndex := 61, descriptorIndex := 62, attributes := #[] }, { accessFlags := 26, nameIndex := 65, descriptorIndex := 62, attributes := #[] }, { accessFlags := 24, nameIndex := 430, descriptorIndex := 62, attributes := #[] }, { accessFlags := 4120, nameIndex := 46, descriptorIndex := 47, attributes := #[] }])
  fields := #[{ name := "HI_BYTE_SHIFT", type := .int, accessFlags := 26, slot := 0, constantValue := 0 }, { name := "LO_BYTE_SHIFT", type := .int, accessFlags := 26, slot := 1, constantValue := 0 }, { name := "MAX_LENGTH", type := .int, accessFlags := 24, slot := 2, constantValue := 0 }, { name := "$assertionsDisabled", type := .boolean, accessFlags := 4120, slot := 3, constantValue := 0 }]
  methods := #[k12m0, k12m1, k12m2, k12m3, k12m4, k12m5, k12m6]
  instanceTypes := #[]
  staticTypes := #[.int, .int, .int, .boolean]
  resolved := Array.replicate 635 none
  statics := some 2 }

def pool13 : Array CpInfo := pool [(9, u "<init>"), (6, .class_ 18), (1, u "java/lang/Object"), (0, u "()V"), (1, .class_ 23), (1, u "jdk/internal/util/ArraysSupport"), (0, u "LOG2_ARRAY_LONG_INDEX_SCALE"), (0, u "I"), (2, u "U"), (0, u "Ljdk/internal/misc/Unsafe;"), (8, u "BIG_ENDIAN"), (0, u "Z"), (8, u "LOG2_BYTE_BIT_SIZE"), (4, u "LOG2_ARRAY_INT_INDEX_SCALE"), (54, u "JLA"), (0, u "Ljdk/internal/access/JavaLangAccess;"), (11, u "LOG2_ARRAY_BOOLEAN_INDEX_SCALE"), (9, u "LOG2_ARRAY_BYTE_INDEX_SCALE"), (5, u "LOG2_ARRAY_CHAR_INDEX_SCALE"), (5, u "LOG2_ARRAY_SHORT_INDEX_SCALE"), (18, u "LOG2_ARRAY_FLOAT_INDEX_SCALE"), (24, u "LOG2_ARRAY_DOUBLE_INDEX_SCALE"), (89, u "T_BOOLEAN"), (2, u "T_CHAR"), (1, u "T_FLOAT"), (1, u "T_DOUBLE"), (1, u "T_BYTE"), (1, u "T_SHORT"), (1, u "T_INT"), (1, u "T_LONG"), (1, u "SOFT_MAX_ARRAY_LENGTH")] 83

def k13m0 : Method := { name := "<init>", desc := "()V", sig := { parameters := [], returnType := none }, accessFlags := 2, code := none }
/-- jdk/internal/util/ArraysSupport -/
def k13 : Class := { plain "jdk/internal/util/ArraysSupport" (some 0) with
  accessFlags := 33
  interfaces := #[]
  cf := some (fileOf pool13 21 #[] #[{ accessFlags := 2, nameIndex := 9, descriptorIndex := 19, attributes := #[] }] 33 16 #[] #[{ accessFlags := 24, nameIndex := 28, descriptorIndex := 29, attributes := #[] }, { accessFlags := 26, nameIndex := 38, descriptorIndex := 39, attributes := #[] }, { accessFlags := 25, nameIndex := 121, descriptorIndex := 25, attributes := #[] }, { accessFlags := 25, nameIndex := 131, descriptorIndex := 25, attributes := #[] }, { accessFlags := 25, nameIndex := 137, descriptorIndex := 25, attributes := #[] }, { accessFlags := 25, nameIndex := 143, descriptorIndex := 25, attributes := #[] }, { accessFlags := 25, nameIndex := 53, descriptorIndex := 25, attributes := #[] }, { accessFlags := 25, nameIndex := 24, descriptorIndex := 25, attributes := #[] }, { accessFlags := 25, nameIndex := 162, descriptorIndex := 25, attributes := #[] }, { accessFlags := 25, nameIndex := 187, descriptorIndex := 25, attributes := #[] }, { accessFlags := 26, nameIndex := 48, descriptorIndex := 25, attributes := #[] }, { accessFlags := 25, nameIndex := 277, descriptorIndex := 25, attributes := #[] }, { accessFlags := 25, nameIndex := 280, descriptorIndex := 25, attributes := #[] }, { accessFlags := 25, nameIndex := 282, descriptorIndex := 25, attributes := #[] }, { accessFlags := 25, nameIndex := 284, descriptorIndex := 25, attributes := #[] }, { accessFlags := 25, nameIndex := 286, descriptorIndex := 25, attributes := #[] }, { accessFlags := 25, nameIndex := 288, descriptorIndex := 25, attributes := #[] }, { accessFlags := 25, nameIndex := 290, descriptorIndex := 25, attributes := #[] }, { accessFlags := 25, nameIndex := 292, descriptorIndex := 25, attributes := #[] }, { accessFlags := 26, nameIndex := 108, descriptorIndex := 109, attributes := #[] }, { accessFlags := 25, nameIndex := 294, descriptorIndex := 25, attributes := #[] }])
  fields := #[{ name := "U", type := (.object "jdk/internal/misc/Unsafe"), accessFlags := 24, slot := 0, constantValue := 0 }, { name := "BIG_ENDIAN", type := .boolean, accessFlags := 26, slot := 1, constantValue := 0 }, { name := "LOG2_ARRAY_BOOLEAN_INDEX_SCALE", type := .int, accessFlags := 25, slot := 2, constantValue := 0 }, { name := "LOG2_ARRAY_BYTE_INDEX_SCALE", type := .int, accessFlags := 25, slot := 3, constantValue := 0 }, { name := "LOG2_ARRAY_CHAR_INDEX_SCALE", type := .int, accessFlags := 25, slot := 4, constantValue := 0 }, { name := "LOG2_ARRAY_SHORT_INDEX_SCALE", type := .int, accessFlags := 25, slot := 5, constantValue := 0 }, { name := "LOG2_ARRAY_INT_INDEX_SCALE", type := .int, accessFlags := 25, slot := 6, constantValue := 0 }, { name := "LOG2_ARRAY_LONG_INDEX_SCALE", type := .int, accessFlags := 25, slot := 7, constantValue := 0 }, { name := "LOG2_ARRAY_FLOAT_INDEX_SCALE", type := .int, accessFlags := 25, slot := 8, constantValue := 0 }, { name := "LOG2_ARRAY_DOUBLE_INDEX_SCALE", type := .int, accessFlags := 25, slot := 9, constantValue := 0 }, { name := "LOG2_BYTE_BIT_SIZE", type := .int, accessFlags := 26, slot := 10, constantValue := 0 }, { name := "T_BOOLEAN", type := .int, accessFlags := 25, slot := 11, constantValue := 0 }, { name := "T_CHAR", type := .int, accessFlags := 25, slot := 12, constantValue := 0 }, { name := "T_FLOAT", type := .int, accessFlags := 25, slot := 13, constantValue := 0 }, { name := "T_DOUBLE", type := .int, accessFlags := 25, slot := 14, constantValue := 0 }, { name := "T_BYTE", type := .int, accessFlags := 25, slot := 15, constantValue := 0 }, { name := "T_SHORT", type := .int, accessFlags := 25, slot := 16, constantValue := 0 }, { name := "T_INT", type := .int, accessFlags := 25, slot := 17, constantValue := 0 }, { name := "T_LONG", type := .int, accessFlags := 25, slot := 18, constantValue := 0 }, { name := "JLA", type := (.object "jdk/internal/access/JavaLangAccess"), accessFlags := 26, slot := 19, constantValue := 0 }, { name := "SOFT_MAX_ARRAY_LENGTH", type := .int, accessFlags := 25, slot := 20, constantValue := 0 }]
  methods := #[k13m0]
  instanceTypes := #[]
  staticTypes := #[(.object "jdk/internal/misc/Unsafe"), .boolean, .int, .int, .int, .int, .int, .int, .int, .int, .int, .int, .int, .int, .int, .int, .int, .int, .int, (.object "jdk/internal/access/JavaLangAccess"), .int]
  resolved := Array.replicate 378 none
  statics := none }

def pool14 : Array CpInfo := pool [(1, u "java/lang/Cloneable"), (0, .class_ 1), (0, u "java/lang/Object"), (0, .class_ 3)] 3

/-- java/lang/Cloneable -/
def k14 : Class := { plain "java/lang/Cloneable" (some 0) with
  accessFlags := 1537
  interfaces := #[]
  cf := some (fileOf pool14 2 #[] #[] 1537 4 #[] #[])
  fields := #[]
  methods := #[]
  instanceTypes := #[]
  staticTypes := #[]
  resolved := Array.replicate 8 none
  statics := none }

/-- the primitive byte -/
def k15 : Class := { plain "byte" none with kind := .primitive 'B', accessFlags := 0x411 }
/-- [B -/
def k16 : Class := { plain "[B" (some 0) with kind := .array 15 .byte, interfaces := #[14, 3], accessFlags := 1041 }

/-- the primitive int -/
def k17 : Class := { plain "int" none with kind := .primitive 'I', accessFlags := 0x411 }
/-- [I -/
def k18 : Class := { plain "[I" (some 0) with kind := .array 17 .int, interfaces := #[14, 3], accessFlags := 1041 }

def heap : Heap := #[{ cls := 8, slots := #[.long 0, .int 1, .null, .int 0, .null, .int 0, .int 0], vm := .statics 8 },
  { cls := 10, slots := #[.null, .null, .null], vm := .statics 10 },
  { cls := 12, slots := #[.int 0, .int 8, .int 0, .int 1], vm := .statics 12 }]
def classes : Array Class := #[k0, k1, k2, k3, k4, k5, k6, k7, k8, k9, k10, k11, k12, k13, k14, k15, k16, k17, k18]
def interned : List (Array UInt16 × Addr) := []
def slotsUsed : Nat := 14
def theMethod : MethodId := ⟨1, 1⟩
def args0 : Array Value := #[.int 65, .int 1]
def aboutOver (below : List Frame) : State where
  vm := { classes := classes, interned := interned.toArray }
  heap := heap
  slotsUsed := slotsUsed
  threads := #[{ frames := .invoking theMethod args0 :: below }]
def below0 : List Frame := [.native { method := ⟨0, 0⟩, args := #[] }]
def about1 : State := aboutOver below0
def p0 : Program := .bare "" "" ""
def e0 : Env := launch0.env 0 0 0
theorem w_frames : about1.frames = Frame.invoking theMethod args0 :: below0 := rfl
set_option maxRecDepth 65536 in
theorem w_args : argsFit about1.vm theMethod args0 = true := by decide +kernel
set_option maxRecDepth 65536 in
theorem w_heap : heapFits about1 = true := by decide +kernel
set_option maxRecDepth 65536 in
theorem w_runnable : about1.curStatus? = some .runnable := by decide +kernel
set_option maxRecDepth 65536 in
theorem w_alone : about1.alone = true := by decide +kernel
set_option maxRecDepth 65536 in
theorem w_named : about1.methodNamed? x = some theMethod := by decide +kernel
set_option maxRecDepth 65536 in
theorem w_hears : about1.hears theMethod below0 = true := by decide +kernel
set_option maxRecDepth 65536 in
theorem w_ripe : about1.ripe theMethod args0 below0 = true := by decide +kernel
theorem w_running : about1.status = .running := rfl
set_option maxRecDepth 65536 in
theorem w_room : about1.hasRoom e0.platform room_1 = true :=
  launch0.hasRoom_least _ room_1 (by decide +kernel) (by decide +kernel) (by decide +kernel) (by decide +kernel) (by decide +kernel) (by decide +kernel)
theorem allAtoms_all (ts : List Jvm.Cond) (a : Array Jvm.Value) (st : Jvm.State) : (allAtoms ts).before a st = ts.all (fun c => c.before a st) := by
  induction ts with
  | nil => rfl
  | cons c t ih =>
    show (Jvm.Cond.and c (allAtoms t)).before a st = _
    rw [Jvm.Cond.before_and, ih, List.all_cons]
def words1 : List Jvm.Cond := Jvm.Cond.code x code maxLocals ret :: tables_1
/-- a 'code' word, met by the world's own term for the bytes: nothing is compared byte by byte -/
theorem code_word {y : MethodName} {bytes : ByteArray} {mx : Nat} {rt : Option FieldType} {a : Array Value} {s : State} {m : MethodId} {meth : Method} {c : Code} (h1 : s.methodNamed? y = some m) (h2 : s.vm.method? m = some meth) (h3 : meth.code = some c) (h4 : c.code = bytes)
    (h5 : (c.maxLocals == mx && c.exceptionTable.isEmpty && decide (c.maxStack ≤ mostOperands) && decide (meth.sig.returnType = rt) && !meth.locks && decide (parseMethodDescriptor y.desc = some meth.sig)) = true) : (Jvm.Cond.code y bytes mx rt).before a s = true := by
  simp only [Bool.and_eq_true, beq_iff_eq, Bool.not_eq_true', decide_eq_true_eq] at h5
  obtain ⟨⟨⟨⟨⟨g1, g2⟩, g3⟩, g4⟩, g5⟩, g6⟩ := h5
  simp [Cond.before, Cond.holds, Cond.value, h1, h2, h3, h4, g1, g2, g3, g4, g5, g6]
def isCode : Jvm.Cond → Bool
  | .code _ _ _ _ => true
  | _ => false
theorem all_split {L : List Jvm.Cond} {P : Jvm.Cond → Bool} (h1 : L.all (fun c => isCode c || P c) = true) (h2 : ∀ c ∈ L.filter isCode, P c = true) : L.all P = true := by
  refine List.all_eq_true.mpr fun c hc => ?_
  have h := List.all_eq_true.mp h1 c hc
  rcases Bool.eq_false_or_eq_true (isCode c) with hi | hi
  · exact h2 c (List.mem_filter.mpr ⟨hc, hi⟩)
  · simpa [hi] using h
set_option maxRecDepth 65536 in
theorem w_c0 : (Jvm.Cond.code x code maxLocals ret).before args0 about1 = true := code_word (m := ⟨1, 1⟩) (meth := k1m1) (c := k1c1) (by decide +kernel) rfl rfl rfl (by decide +kernel)
set_option maxRecDepth 65536 in
theorem w_c1 : (Jvm.Cond.code ({ cls := "com/example/tallyward/tallyward/model/Codes", name := "isCode", desc := "(C)Z" } : Jvm.MethodName) prog_116_method_8_code (1 : Nat) (Option.some Jvm.ClassFile.FieldType.boolean)).before args0 about1 = true := code_word (m := ⟨2, 2⟩) (meth := k2m2) (c := k2c2) (by decide +kernel) rfl rfl rfl (by decide +kernel)
set_option maxRecDepth 65536 in
theorem w_c2 : (Jvm.Cond.code ({ cls := "java/lang/String", name := "valueOf", desc := "(C)Ljava/lang/String;" } : Jvm.MethodName) jdk_42_method_139_code (1 : Nat) (Option.some (Jvm.ClassFile.FieldType.object "java/lang/String"))).before args0 about1 = true := code_word (m := ⟨8, 6⟩) (meth := k8m6) (c := k8c6) (by decide +kernel) rfl rfl rfl (by decide +kernel)
set_option maxRecDepth 65536 in
theorem w_c3 : (Jvm.Cond.code ({ cls := "java/lang/StringLatin1", name := "canEncode", desc := "(C)Z" } : Jvm.MethodName) jdk_43_method_3_code (1 : Nat) (Option.some Jvm.ClassFile.FieldType.boolean)).before args0 about1 = true := code_word (m := ⟨9, 2⟩) (meth := k9m2) (c := k9c2) (by decide +kernel) rfl rfl rfl (by decide +kernel)
set_option maxRecDepth 65536 in
theorem w_c4 : (Jvm.Cond.code ({ cls := "java/lang/StringLatin1", name := "toBytes", desc := "(C)[B" } : Jvm.MethodName) jdk_43_method_46_code (1 : Nat) (Option.some (Jvm.ClassFile.FieldType.array Jvm.ClassFile.FieldType.byte))).before args0 about1 = true := code_word (m := ⟨9, 6⟩) (meth := k9m6) (c := k9c6) (by decide +kernel) rfl rfl rfl (by decide +kernel)
set_option maxRecDepth 65536 in
theorem w_c5 : (Jvm.Cond.code ({ cls := "java/lang/String", name := "<init>", desc := "([BB)V" } : Jvm.MethodName) jdk_42_method_151_code (3 : Nat) (Option.none : Option Jvm.ClassFile.FieldType)).before args0 about1 = true := code_word (m := ⟨8, 7⟩) (meth := k8m7) (c := k8c7) (by decide +kernel) rfl rfl rfl (by decide +kernel)
set_option maxRecDepth 65536 in
theorem w_c6 : (Jvm.Cond.code ({ cls := "java/lang/Object", name := "<init>", desc := "()V" } : Jvm.MethodName) object_method_1_code (1 : Nat) (Option.none : Option Jvm.ClassFile.FieldType)).before args0 about1 = true := code_word (m := ⟨0, 0⟩) (meth := k0m0) (c := k0c0) (by decide +kernel) rfl rfl rfl (by decide +kernel)
set_option maxRecDepth 65536 in
theorem w_c7 : (Jvm.Cond.code ({ cls := "com/example/tallyward/tallyward/model/Codes", name := "isCode", desc := "(Ljava/lang/String;I)Z" } : Jvm.MethodName) prog_116_method_7_code (2 : Nat) (Option.some Jvm.ClassFile.FieldType.boolean)).before args0 about1 = true := code_word (m := ⟨2, 1⟩) (meth := k2m1) (c := k2c1) (by decide +kernel) rfl rfl rfl (by decide +kernel)
set_option maxRecDepth 65536 in
theorem w_c8 : (Jvm.Cond.code ({ cls := "java/lang/String", name := "length", desc := "()I" } : Jvm.MethodName) jdk_42_method_54_code (1 : Nat) (Option.some Jvm.ClassFile.FieldType.int)).before args0 about1 = true := code_word (m := ⟨8, 1⟩) (meth := k8m1) (c := k8c1) (by decide +kernel) rfl rfl rfl (by decide +kernel)
set_option maxRecDepth 65536 in
theorem w_c9 : (Jvm.Cond.code ({ cls := "java/lang/String", name := "coder", desc := "()B" } : Jvm.MethodName) jdk_42_method_152_code (1 : Nat) (Option.some Jvm.ClassFile.FieldType.byte)).before args0 about1 = true := code_word (m := ⟨8, 8⟩) (meth := k8m8) (c := k8c8) (by decide +kernel) rfl rfl rfl (by decide +kernel)
set_option maxRecDepth 65536 in
theorem w_c10 : (Jvm.Cond.code ({ cls := "com/example/tallyward/tallyward/model/Codes", name := "isToken", desc := "(Ljava/lang/String;)Z" } : Jvm.MethodName) prog_116_method_11_code (1 : Nat) (Option.some Jvm.ClassFile.FieldType.boolean)).before args0 about1 = true := code_word (m := ⟨2, 3⟩) (meth := k2m3) (c := k2c3) (by decide +kernel) rfl rfl rfl (by decide +kernel)
set_option maxRecDepth 65536 in
theorem w_c11 : (Jvm.Cond.code ({ cls := "java/lang/String", name := "isEmpty", desc := "()Z" } : Jvm.MethodName) jdk_42_method_55_code (1 : Nat) (Option.some Jvm.ClassFile.FieldType.boolean)).before args0 about1 = true := code_word (m := ⟨8, 2⟩) (meth := k8m2) (c := k8c2) (by decide +kernel) rfl rfl rfl (by decide +kernel)
set_option maxRecDepth 65536 in
theorem w_c12 : (Jvm.Cond.code ({ cls := "com/example/tallyward/tallyward/model/Codes", name := "allBetween", desc := "(Ljava/lang/String;CC)Z" } : Jvm.MethodName) prog_116_method_14_code (5 : Nat) (Option.some Jvm.ClassFile.FieldType.boolean)).before args0 about1 = true := code_word (m := ⟨2, 4⟩) (meth := k2m4) (c := k2c4) (by decide +kernel) rfl rfl rfl (by decide +kernel)
set_option maxRecDepth 65536 in
theorem w_c13 : (Jvm.Cond.code ({ cls := "java/lang/String", name := "charAt", desc := "(I)C" } : Jvm.MethodName) jdk_42_method_56_code (2 : Nat) (Option.some Jvm.ClassFile.FieldType.char)).before args0 about1 = true := code_word (m := ⟨8, 3⟩) (meth := k8m3) (c := k8c3) (by decide +kernel) rfl rfl rfl (by decide +kernel)
set_option maxRecDepth 65536 in
theorem w_c14 : (Jvm.Cond.code ({ cls := "java/lang/String", name := "isLatin1", desc := "()Z" } : Jvm.MethodName) jdk_42_method_154_code (1 : Nat) (Option.some Jvm.ClassFile.FieldType.boolean)).before args0 about1 = true := code_word (m := ⟨8, 9⟩) (meth := k8m9) (c := k8c9) (by decide +kernel) rfl rfl rfl (by decide +kernel)
set_option maxRecDepth 65536 in
theorem w_c15 : (Jvm.Cond.code ({ cls := "java/lang/StringLatin1", name := "charAt", desc := "([BI)C" } : Jvm.MethodName) jdk_43_method_2_code (2 : Nat) (Option.some Jvm.ClassFile.FieldType.char)).before args0 about1 = true := code_word (m := ⟨9, 1⟩) (meth := k9m1) (c := k9c1) (by decide +kernel) rfl rfl rfl (by decide +kernel)
set_option maxRecDepth 65536 in
theorem w_c16 : (Jvm.Cond.code ({ cls := "java/lang/String", name := "checkIndex", desc := "(II)V" } : Jvm.MethodName) jdk_42_method_155_code (2 : Nat) (Option.none : Option Jvm.ClassFile.FieldType)).before args0 about1 = true := code_word (m := ⟨8, 10⟩) (meth := k8m10) (c := k8c10) (by decide +kernel) rfl rfl rfl (by decide +kernel)
set_option maxRecDepth 65536 in
theorem w_c17 : (Jvm.Cond.code ({ cls := "jdk/internal/util/Preconditions", name := "checkIndex", desc := "(IILjava/util/function/BiFunction;)I" } : Jvm.MethodName) jdk_41_method_11_code (3 : Nat) (Option.some Jvm.ClassFile.FieldType.int)).before args0 about1 = true := code_word (m := ⟨10, 1⟩) (meth := k10m1) (c := k10c1) (by decide +kernel) rfl rfl rfl (by decide +kernel)
set_option maxRecDepth 65536 in
theorem w_c18 : (Jvm.Cond.code ({ cls := "java/lang/String", name := "indexOf", desc := "(I)I" } : Jvm.MethodName) jdk_42_method_79_code (2 : Nat) (Option.some Jvm.ClassFile.FieldType.int)).before args0 about1 = true := code_word (m := ⟨8, 4⟩) (meth := k8m4) (c := k8c4) (by decide +kernel) rfl rfl rfl (by decide +kernel)
set_option maxRecDepth 65536 in
theorem w_c19 : (Jvm.Cond.code ({ cls := "java/lang/String", name := "indexOf", desc := "(II)I" } : Jvm.MethodName) jdk_42_method_80_code (3 : Nat) (Option.some Jvm.ClassFile.FieldType.int)).before args0 about1 = true := code_word (m := ⟨8, 5⟩) (meth := k8m5) (c := k8c5) (by decide +kernel) rfl rfl rfl (by decide +kernel)
set_option maxRecDepth 65536 in
theorem w_c20 : (Jvm.Cond.code ({ cls := "java/lang/StringLatin1", name := "indexOf", desc := "([BIII)I" } : Jvm.MethodName) jdk_43_method_22_code (4 : Nat) (Option.some Jvm.ClassFile.FieldType.int)).before args0 about1 = true := code_word (m := ⟨9, 4⟩) (meth := k9m4) (c := k9c4) (by decide +kernel) rfl rfl rfl (by decide +kernel)
set_option maxRecDepth 65536 in
theorem w_c21 : (Jvm.Cond.code ({ cls := "java/lang/StringLatin1", name := "canEncode", desc := "(I)Z" } : Jvm.MethodName) jdk_43_method_4_code (1 : Nat) (Option.some Jvm.ClassFile.FieldType.boolean)).before args0 about1 = true := code_word (m := ⟨9, 3⟩) (meth := k9m3) (c := k9c3) (by decide +kernel) rfl rfl rfl (by decide +kernel)
set_option maxRecDepth 65536 in
theorem w_c22 : (Jvm.Cond.code ({ cls := "java/lang/Math", name := "max", desc := "(II)I" } : Jvm.MethodName) jdk_29_method_65_code (2 : Nat) (Option.some Jvm.ClassFile.FieldType.int)).before args0 about1 = true := code_word (m := ⟨11, 1⟩) (meth := k11m1) (c := k11c1) (by decide +kernel) rfl rfl rfl (by decide +kernel)
set_option maxRecDepth 65536 in
theorem w_c23 : (Jvm.Cond.code ({ cls := "java/lang/Math", name := "min", desc := "(II)I" } : Jvm.MethodName) jdk_29_method_69_code (2 : Nat) (Option.some Jvm.ClassFile.FieldType.int)).before args0 about1 = true := code_word (m := ⟨11, 2⟩) (meth := k11m2) (c := k11c2) (by decide +kernel) rfl rfl rfl (by decide +kernel)
set_option maxRecDepth 65536 in
theorem w_c24 : (Jvm.Cond.code ({ cls := "java/lang/StringLatin1", name := "indexOfChar", desc := "([BIII)I" } : Jvm.MethodName) jdk_43_method_23_code (6 : Nat) (Option.some Jvm.ClassFile.FieldType.int)).before args0 about1 = true := code_word (m := ⟨9, 5⟩) (meth := k9m5) (c := k9c5) (by decide +kernel) rfl rfl rfl (by decide +kernel)
set_option maxRecDepth 65536 in
theorem w_c25 : (Jvm.Cond.code ({ cls := "java/lang/StringUTF16", name := "toBytes", desc := "(C)[B" } : Jvm.MethodName) jdk_52_method_24_code (2 : Nat) (Option.some (Jvm.ClassFile.FieldType.array Jvm.ClassFile.FieldType.byte))).before args0 about1 = true := code_word (m := ⟨12, 4⟩) (meth := k12m4) (c := k12c4) (by decide +kernel) rfl rfl rfl (by decide +kernel)
set_option maxRecDepth 65536 in
theorem w_c26 : (Jvm.Cond.code ({ cls := "java/lang/StringUTF16", name := "putChar", desc := "([BII)V" } : Jvm.MethodName) jdk_52_method_4_code (3 : Nat) (Option.none : Option Jvm.ClassFile.FieldType)).before args0 about1 = true := code_word (m := ⟨12, 1⟩) (meth := k12m1) (c := k12c1) (by decide +kernel) rfl rfl rfl (by decide +kernel)
set_option maxRecDepth 65536 in
theorem w_c27 : (Jvm.Cond.code ({ cls := "java/lang/StringUTF16", name := "charAt", desc := "([BI)C" } : Jvm.MethodName) jdk_52_method_83_code (2 : Nat) (Option.some Jvm.ClassFile.FieldType.char)).before args0 about1 = true := code_word (m := ⟨12, 5⟩) (meth := k12m5) (c := k12c5) (by decide +kernel) rfl rfl rfl (by decide +kernel)
set_option maxRecDepth 65536 in
theorem w_c28 : (Jvm.Cond.code ({ cls := "java/lang/StringUTF16", name := "checkIndex", desc := "(I[B)V" } : Jvm.MethodName) jdk_52_method_91_code (2 : Nat) (Option.none : Option Jvm.ClassFile.FieldType)).before args0 about1 = true := code_word (m := ⟨12, 6⟩) (meth := k12m6) (c := k12c6) (by decide +kernel) rfl rfl rfl (by decide +kernel)
set_option maxRecDepth 65536 in
theorem w_c29 : (Jvm.Cond.code ({ cls := "java/lang/StringUTF16", name := "length", desc := "([B)I" } : Jvm.MethodName) jdk_52_method_6_code (1 : Nat) (Option.some Jvm.ClassFile.FieldType.int)).before args0 about1 = true := code_word (m := ⟨12, 3⟩) (meth := k12m3) (c := k12c3) (by decide +kernel) rfl rfl rfl (by decide +kernel)
set_option maxRecDepth 65536 in
theorem w_c30 : (Jvm.Cond.code ({ cls := "java/lang/StringUTF16", name := "getChar", desc := "([BI)C" } : Jvm.MethodName) jdk_52_method_5_code (2 : Nat) (Option.some Jvm.ClassFile.FieldType.char)).before args0 about1 = true := code_word (m := ⟨12, 2⟩) (meth := k12m2) (c := k12c2) (by decide +kernel) rfl rfl rfl (by decide +kernel)
def codes1 : List Jvm.Cond := [Jvm.Cond.code x code maxLocals ret, Jvm.Cond.code ({ cls := "com/example/tallyward/tallyward/model/Codes", name := "isCode", desc := "(C)Z" } : Jvm.MethodName) prog_116_method_8_code (1 : Nat) (Option.some Jvm.ClassFile.FieldType.boolean), Jvm.Cond.code ({ cls := "java/lang/String", name := "valueOf", desc := "(C)Ljava/lang/String;" } : Jvm.MethodName) jdk_42_method_139_code (1 : Nat) (Option.some (Jvm.ClassFile.FieldType.object "java/lang/String")), Jvm.Cond.code ({ cls := "java/lang/StringLatin1", name := "canEncode", desc := "(C)Z" } : Jvm.MethodName) jdk_43_method_3_code (1 : Nat) (Option.some Jvm.ClassFile.FieldType.boolean), Jvm.Cond.code ({ cls := "java/lang/StringLatin1", name := "toBytes", desc := "(C)[B" } : Jvm.MethodName) jdk_43_method_46_code (1 : Nat) (Option.some (Jvm.ClassFile.FieldType.array Jvm.ClassFile.FieldType.byte)), Jvm.Cond.code ({ cls := "java/lang/String", name := "<init>", desc := "([BB)V" } : Jvm.MethodName) jdk_42_method_151_code (3 : Nat) (Option.none : Option Jvm.ClassFile.FieldType), Jvm.Cond.code ({ cls := "java/lang/Object", name := "<init>", desc := "()V" } : Jvm.MethodName) object_method_1_code (1 : Nat) (Option.none : Option Jvm.ClassFile.FieldType), Jvm.Cond.code ({ cls := "com/example/tallyward/tallyward/model/Codes", name := "isCode", desc := "(Ljava/lang/String;I)Z" } : Jvm.MethodName) prog_116_method_7_code (2 : Nat) (Option.some Jvm.ClassFile.FieldType.boolean), Jvm.Cond.code ({ cls := "java/lang/String", name := "length", desc := "()I" } : Jvm.MethodName) jdk_42_method_54_code (1 : Nat) (Option.some Jvm.ClassFile.FieldType.int), Jvm.Cond.code ({ cls := "java/lang/String", name := "coder", desc := "()B" } : Jvm.MethodName) jdk_42_method_152_code (1 : Nat) (Option.some Jvm.ClassFile.FieldType.byte), Jvm.Cond.code ({ cls := "com/example/tallyward/tallyward/model/Codes", name := "isToken", desc := "(Ljava/lang/String;)Z" } : Jvm.MethodName) prog_116_method_11_code (1 : Nat) (Option.some Jvm.ClassFile.FieldType.boolean), Jvm.Cond.code ({ cls := "java/lang/String", name := "isEmpty", desc := "()Z" } : Jvm.MethodName) jdk_42_method_55_code (1 : Nat) (Option.some Jvm.ClassFile.FieldType.boolean), Jvm.Cond.code ({ cls := "com/example/tallyward/tallyward/model/Codes", name := "allBetween", desc := "(Ljava/lang/String;CC)Z" } : Jvm.MethodName) prog_116_method_14_code (5 : Nat) (Option.some Jvm.ClassFile.FieldType.boolean), Jvm.Cond.code ({ cls := "java/lang/String", name := "charAt", desc := "(I)C" } : Jvm.MethodName) jdk_42_method_56_code (2 : Nat) (Option.some Jvm.ClassFile.FieldType.char), Jvm.Cond.code ({ cls := "java/lang/String", name := "isLatin1", desc := "()Z" } : Jvm.MethodName) jdk_42_method_154_code (1 : Nat) (Option.some Jvm.ClassFile.FieldType.boolean), Jvm.Cond.code ({ cls := "java/lang/StringLatin1", name := "charAt", desc := "([BI)C" } : Jvm.MethodName) jdk_43_method_2_code (2 : Nat) (Option.some Jvm.ClassFile.FieldType.char), Jvm.Cond.code ({ cls := "java/lang/String", name := "checkIndex", desc := "(II)V" } : Jvm.MethodName) jdk_42_method_155_code (2 : Nat) (Option.none : Option Jvm.ClassFile.FieldType), Jvm.Cond.code ({ cls := "jdk/internal/util/Preconditions", name := "checkIndex", desc := "(IILjava/util/function/BiFunction;)I" } : Jvm.MethodName) jdk_41_method_11_code (3 : Nat) (Option.some Jvm.ClassFile.FieldType.int), Jvm.Cond.code ({ cls := "java/lang/String", name := "indexOf", desc := "(I)I" } : Jvm.MethodName) jdk_42_method_79_code (2 : Nat) (Option.some Jvm.ClassFile.FieldType.int), Jvm.Cond.code ({ cls := "java/lang/String", name := "indexOf", desc := "(II)I" } : Jvm.MethodName) jdk_42_method_80_code (3 : Nat) (Option.some Jvm.ClassFile.FieldType.int), Jvm.Cond.code ({ cls := "java/lang/StringLatin1", name := "indexOf", desc := "([BIII)I" } : Jvm.MethodName) jdk_43_method_22_code (4 : Nat) (Option.some Jvm.ClassFile.FieldType.int), Jvm.Cond.code ({ cls := "java/lang/StringLatin1", name := "canEncode", desc := "(I)Z" } : Jvm.MethodName) jdk_43_method_4_code (1 : Nat) (Option.some Jvm.ClassFile.FieldType.boolean), Jvm.Cond.code ({ cls := "java/lang/Math", name := "max", desc := "(II)I" } : Jvm.MethodName) jdk_29_method_65_code (2 : Nat) (Option.some Jvm.ClassFile.FieldType.int), Jvm.Cond.code ({ cls := "java/lang/Math", name := "min", desc := "(II)I" } : Jvm.MethodName) jdk_29_method_69_code (2 : Nat) (Option.some Jvm.ClassFile.FieldType.int), Jvm.Cond.code ({ cls := "java/lang/StringLatin1", name := "indexOfChar", desc := "([BIII)I" } : Jvm.MethodName) jdk_43_method_23_code (6 : Nat) (Option.some Jvm.ClassFile.FieldType.int), Jvm.Cond.code ({ cls := "java/lang/StringUTF16", name := "toBytes", desc := "(C)[B" } : Jvm.MethodName) jdk_52_method_24_code (2 : Nat) (Option.some (Jvm.ClassFile.FieldType.array Jvm.ClassFile.FieldType.byte)), Jvm.Cond.code ({ cls := "java/lang/StringUTF16", name := "putChar", desc := "([BII)V" } : Jvm.MethodName) jdk_52_method_4_code (3 : Nat) (Option.none : Option Jvm.ClassFile.FieldType), Jvm.Cond.code ({ cls := "java/lang/StringUTF16", name := "charAt", desc := "([BI)C" } : Jvm.MethodName) jdk_52_method_83_code (2 : Nat) (Option.some Jvm.ClassFile.FieldType.char), Jvm.Cond.code ({ cls := "java/lang/StringUTF16", name := "checkIndex", desc := "(I[B)V" } : Jvm.MethodName) jdk_52_method_91_code (2 : Nat) (Option.none : Option Jvm.ClassFile.FieldType), Jvm.Cond.code ({ cls := "java/lang/StringUTF16", name := "length", desc := "([B)I" } : Jvm.MethodName) jdk_52_method_6_code (1 : Nat) (Option.some Jvm.ClassFile.FieldType.int), Jvm.Cond.code ({ cls := "java/lang/StringUTF16", name := "getChar", desc := "([BI)C" } : Jvm.MethodName) jdk_52_method_5_code (2 : Nat) (Option.some Jvm.ClassFile.FieldType.char)]
set_option maxRecDepth 65536 in
theorem codes_eq : words1.filter isCode = codes1 := rfl
theorem w_codes : ∀ c ∈ words1.filter isCode, c.before args0 about1 = true := by
  rw [codes_eq]
  intro c hc
  simp only [codes1, List.mem_cons, List.not_mem_nil, or_false] at hc
  rcases hc with rfl | rfl | rfl | rfl | rfl | rfl | rfl | rfl | rfl | rfl | rfl | rfl | rfl | rfl | rfl | rfl | rfl | rfl | rfl | rfl | rfl | rfl | rfl | rfl | rfl | rfl | rfl | rfl | rfl | rfl | rfl
  · exact w_c0
  · exact w_c1
  · exact w_c2
  · exact w_c3
  · exact w_c4
  · exact w_c5
  · exact w_c6
  · exact w_c7
  · exact w_c8
  · exact w_c9
  · exact w_c10
  · exact w_c11
  · exact w_c12
  · exact w_c13
  · exact w_c14
  · exact w_c15
  · exact w_c16
  · exact w_c17
  · exact w_c18
  · exact w_c19
  · exact w_c20
  · exact w_c21
  · exact w_c22
  · exact w_c23
  · exact w_c24
  · exact w_c25
  · exact w_c26
  · exact w_c27
  · exact w_c28
  · exact w_c29
  · exact w_c30
set_option maxRecDepth 65536 in
theorem w_t1 : (words1.take 24).all (fun c => isCode c || c.before args0 about1) = true := by decide +kernel
set_option maxRecDepth 65536 in
theorem w_t2 : ((words1.drop 24).take 24).all (fun c => isCode c || c.before args0 about1) = true := by decide +kernel
set_option maxRecDepth 65536 in
theorem w_t3 : (((words1.drop 24).drop 24).take 24).all (fun c => isCode c || c.before args0 about1) = true := by decide +kernel
set_option maxRecDepth 65536 in
theorem w_t4 : ((((words1.drop 24).drop 24).drop 24).take 24).all (fun c => isCode c || c.before args0 about1) = true := by decide +kernel
set_option maxRecDepth 65536 in
theorem w_t5 : (((((words1.drop 24).drop 24).drop 24).drop 24).take 24).all (fun c => isCode c || c.before args0 about1) = true := by decide +kernel
set_option maxRecDepth 65536 in
theorem w_t6 : (((((words1.drop 24).drop 24).drop 24).drop 24).drop 24).all (fun c => isCode c || c.before args0 about1) = true := by decide +kernel
theorem w_tables : (allAtoms (Jvm.Cond.code x code maxLocals ret :: tables_1)).before args0 about1 = true := by
  rw [allAtoms_all]
  show words1.all (fun c => c.before args0 about1) = true
  refine all_split ?_ w_codes
  rw [← List.take_append_drop 24 words1, List.all_append, w_t1, ← List.take_append_drop 24 (words1.drop 24), List.all_append, w_t2, ← List.take_append_drop 24 ((words1.drop 24).drop 24), List.all_append, w_t3, ← List.take_append_drop 24 (((words1.drop 24).drop 24).drop 24), List.all_append, w_t4, ← List.take_append_drop 24 ((((words1.drop 24).drop 24).drop 24).drop 24), List.all_append, w_t5, w_t6]
  rfl
set_option maxRecDepth 65536 in
theorem w_rest : rest_1_c.before args0 about1 = true := by decide +kernel
set_option maxRecDepth 65536 in
theorem w_case : (Jvm.Cond.and given_1 narrow_1).before args0 about1 = true := by decide +kernel
theorem w_applies : (headSpec (Jvm.Cond.code x code maxLocals ret :: tables_1) room_1).applies x e0.platform about1 = true :=
  (Spec.applies_iff w_frames).mpr ⟨w_running, w_runnable, w_alone, w_named, w_hears, w_ripe, w_room, w_tables⟩
theorem atStart : AtStart classFile x code maxLocals ret World_1 tables_1 room_1 Calls_1 rest_1 Pre_1 launch0 p0 e0 about1 theMethod args0 below0 :=
  ⟨lists_1, trivial, launch0.admits_env _ _ _, launch0.least_env, fairChoices_fair.cas, fairChoices_fair.clock, w_frames, w_args, w_heap, w_applies, trivial, w_rest, w_case⟩
end start1
theorem witness_1 : WitnessClaimed_1 := ⟨start1.p0, start1.e0, start1.about1, start1.theMethod, start1.args0, start1.below0, start1.atStart⟩
end Jvm.Pilot.@@N@@
