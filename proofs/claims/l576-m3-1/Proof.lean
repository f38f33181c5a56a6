import JvmDerived
import JvmDerived.Pilot.@@N@@Statement
import JvmDerived.Pilot.@@N@@Code
set_option linter.unusedVariables false
set_option linter.unusedSimpArgs false
namespace Jvm.Pilot.@@N@@
section OwnFP
open Jvm Jvm.FP Jvm.Free.Fl Jvm.RoadKit Jvm.Sem Jvm.Op Jvm.ClassFile Jvm.FP.Core
theorem own_mul_big {f : Fmt} (hf : Good f) {x y La Lb K : Nat} (hx : La * f.tails ≤ mag f x) (hx2 : mag f x < infBits f) (hy : Lb * f.tails ≤ mag f y) (hy2 : mag f y < infBits f)
    (ha : 1 ≤ La) (hb : 1 ≤ Lb) (hK : 1 ≤ K) (hm : K * f.tails ≤ infBits f) (h : K + 1 + (-f.qmin).toNat ≤ f.p - 1 + La + Lb) : K * f.tails ≤ mag f (mul f x y) := by
  obtain ⟨s, c, q, x1, x2, x3⟩ := fin_of_mag hf hx2
  obtain ⟨t, d, r, y1, y2, y3⟩ := fin_of_mag hf hy2
  obtain ⟨p1, p2, p3⟩ := product_units x2 y2
  have hq := qmin_neg hf
  have hd : decode f (mul f x y) = roundRatio f (s != t) (c * d) 1 (q + r) := by
    unfold mul
    rw [decode_enc hf (round_fits hf _), x1, y1, p1]; rfl
  refine mag_ge hf hd (by decide) (e0 := 2 * f.qmin) (by omega) p2 hm ?_
  have l1 : f.tails * 2 ^ (La - 1) ≤ unitsOf f (mag f x) := by rw [← unitsOf_start ha]; exact unitsOf_le_iff.mpr hx
  have l2 : f.tails * 2 ^ (Lb - 1) ≤ unitsOf f (mag f y) := by rw [← unitsOf_start hb]; exact unitsOf_le_iff.mpr hy
  rw [p3, x3, y3, unitsOf_start hK, Nat.mul_one]
  refine Nat.le_trans ?_ (Nat.mul_le_mul l1 l2)
  have e1 : f.tails * 2 ^ (K - 1) * 2 ^ (f.qmin - 2 * f.qmin).toNat = f.tails * 2 ^ (K - 1 + (f.qmin - 2 * f.qmin).toNat) := by rw [Nat.pow_add, Nat.mul_assoc]
  have e2 : (f.tails * 2 ^ (La - 1)) * (f.tails * 2 ^ (Lb - 1)) = f.tails * 2 ^ (f.p - 1 + (La - 1) + (Lb - 1)) := by
    rw [Nat.pow_add, Nat.pow_add, show 2 ^ (f.p - 1) = f.tails from rfl]; ac_rfl
  rw [e1, e2]
  exact Nat.mul_le_mul_left _ (Nat.pow_le_pow_right (by decide) (by omega))
theorem own_div_big {f : Fmt} (hf : Good f) {x y La Kb K : Nat} (hx : La * f.tails ≤ mag f x) (hx2 : mag f x < infBits f) (hy : mag f y < Kb * f.tails) (hy0 : 0 < mag f y)
    (hkb : Kb ≤ f.exps - 1) (ha : 1 ≤ La) (hK : 1 ≤ K) (hm : K * f.tails ≤ infBits f) (h : K + (f.p - 1) + Kb ≤ La + 1 + (-f.qmin).toNat) : K * f.tails ≤ mag f (div f x y) := by
  obtain ⟨s, c, q, x1, x2, x3⟩ := fin_of_mag hf hx2
  obtain ⟨t, d, r, y1, y2, y3⟩ := fin_of_mag hf (mag_lt_inf hy hkb)
  have hq := qmin_neg hf
  have hd0 : d ≠ 0 := by
    rintro rfl
    have h1 : zmag f (.fin t 0 r) = 0 := Nat.zero_mul _
    rw [y3] at h1
    have := unitsOf_eq_zero.mp h1
    omega
  have hd : decode f (div f x y) = roundRatio f (s != t) c d (q - r) := by
    unfold div
    rw [decode_enc hf (quotient_fits hf _ _), x1, y1]
    simp only [quotient, if_neg hd0]
  have hx1 := x2.2.1
  have hy1 := y2.2.1
  refine mag_ge hf hd (by omega) (e0 := 2 * f.qmin - r) (by omega) (by omega) hm ?_
  have l1 : f.tails * 2 ^ (La - 1) ≤ zmag f (.fin s c q) := by rw [x3, ← unitsOf_start ha]; exact unitsOf_le_iff.mpr hx
  obtain ⟨k2, l2⟩ := units_lt_start hy
  rw [unitsOf_start hK]
  have e1 : inUnits c (q - r) (2 * f.qmin - r) = zmag f (.fin s c q) * 2 ^ (-f.qmin).toNat := by
    show c * _ = c * _ * _
    rw [Nat.mul_assoc, ← Nat.pow_add]; congr 2; omega
  have e2 : 2 ^ (f.qmin - (2 * f.qmin - r)).toNat * d = zmag f (.fin t d r) := by
    show _ = d * _
    rw [Nat.mul_comm]; congr 2; omega
  rw [e1, Nat.mul_assoc, e2, y3]
  have g1 : f.tails * 2 ^ (K - 1) * unitsOf f (mag f y) ≤ f.tails * 2 ^ (K - 1) * (f.tails * 2 ^ (Kb - 1)) := Nat.mul_le_mul_left _ (Nat.le_of_lt l2)
  have g2 : f.tails * 2 ^ (K - 1) * (f.tails * 2 ^ (Kb - 1)) = f.tails * 2 ^ (K - 1 + (f.p - 1) + (Kb - 1)) := by
    rw [Nat.pow_add, Nat.pow_add, show 2 ^ (f.p - 1) = f.tails from rfl]; ac_rfl
  have g3 : f.tails * 2 ^ (K - 1 + (f.p - 1) + (Kb - 1)) ≤ f.tails * 2 ^ (La - 1 + (-f.qmin).toNat) := Nat.mul_le_mul_left _ (Nat.pow_le_pow_right (by decide) (by omega))
  have g4 : f.tails * 2 ^ (La - 1 + (-f.qmin).toNat) = f.tails * 2 ^ (La - 1) * 2 ^ (-f.qmin).toNat := by rw [Nat.pow_add, Nat.mul_assoc]
  exact Nat.le_trans g1 (g2 ▸ Nat.le_trans g3 (g4 ▸ Nat.mul_le_mul_right _ l1))

def own_q4 : UInt64 := 4616189618054758400
def own_q8 : UInt64 := 4620693217682128896
def own_q6 : UInt64 := 4696837146684686336
def own_x (n : Int32) : UInt64 := FP.ddiv (FP.i2d n) own_q4
theorem own_x_big {n : Int32} (h : n ≠ 0) : 1020 * 2 ^ 52 ≤ (own_x n).toNat % 2 ^ 63 := by
  have h1 : (Core.ddiv (Core.i2d n) own_q4).toNat = div b64 (Core.i2d n).toNat own_q4.toNat := toNat_of64 (quotient_fits good_b64 _ _)
  obtain ⟨b1, b2⟩ := Core.i2d_big (int32_ne h)
  have h2 := own_div_big good_b64 (x := (Core.i2d n).toNat) (y := own_q4.toNat) (La := 1023) (Kb := 1026) (K := 1020)
    (by rw [mag_toNat64, tails_b64]; exact b1) (by rw [mag_toNat64, infBits_b64]; omega) (by rw [mag_toNat64, tails_b64]; decide) (by rw [mag_toNat64]; decide)
    (by rw [exps_b64]; decide) (by decide) (by decide) (by rw [tails_b64, infBits_b64]; decide) (by rw [p_b64, qmin_b64]; decide)
  rw [← h1, mag_toNat64, tails_b64] at h2
  exact h2
theorem own_x_mag (n : Int32) : Mag64 1055 (own_x n) := Jvm.RoadKit.ddiv_mag (K := 1056) (L := 1025) (Jvm.Free.Fl.i2d_mag n) (by unfold Big64 own_q4; decide) (by decide) (by decide)
theorem own_x_fin (n : Int32) : Fin64 (own_x n) := (own_x_mag n).fin (by decide)
theorem own_x_nz {n : Int32} (h : n ≠ 0) : Nz64 (own_x n) := (nz64_iff _).mpr (by have := own_x_big h; omega)
theorem own_x_no {n : Int32} : NoNaN64 (own_x n) := (own_x_fin n).noNaN
def own_y (x : UInt64) : UInt64 := FP.dmul x own_q6
theorem own_q6_mag : Mag64 1043 own_q6 := by unfold Mag64 own_q6; decide
theorem own_q8_fin : Fin64 own_q8 := by unfold Fin64 own_q8; decide
theorem own_q6_fin : Fin64 own_q6 := by unfold Fin64 own_q6; decide
theorem own_y_fin (n : Int32) : Fin64 (own_y (own_x n)) := (Jvm.Free.Fl.dmul_mag (own_x_mag n) own_q6_mag (by decide) (by decide)).fin (by decide)
theorem own_y_nz {n : Int32} (h : n ≠ 0) : Nz64 (own_y (own_x n)) := by
  have h1 : (Core.dmul (own_x n) own_q6).toNat = mul b64 (own_x n).toNat own_q6.toNat := toNat_of64 (round_fits good_b64 _)
  have b1 := own_x_big h
  have b2 := (fin64_iff _).mp (own_x_fin n)
  have h2 := own_mul_big good_b64 (x := (own_x n).toNat) (y := own_q6.toNat) (La := 1020) (Lb := 1042) (K := 1039)
    (by rw [mag_toNat64, tails_b64]; exact b1) (by rw [mag_toNat64, infBits_b64]; omega) (by rw [mag_toNat64, tails_b64]; decide) (by rw [mag_toNat64, infBits_b64]; decide)
    (by decide) (by decide) (by decide) (by rw [tails_b64, infBits_b64]; decide) (by rw [p_b64, qmin_b64]; decide)
  rw [← h1, mag_toNat64, tails_b64] at h2
  have h3 : 1039 * 2 ^ 52 ≤ (own_y (own_x n)).toNat % 2 ^ 63 := h2
  exact (nz64_iff _).mpr (by omega)
/-- what secondsToSend gives -/
def own_f (k : Int64) (x : UInt64) : UInt64 := FP.ddiv (FP.dmul (FP.l2d k) own_q8) (own_y x)
theorem own_n1 (k : Int64) : NoNaN64 (FP.dmul (FP.l2d k) own_q8) := dmul_out (l2d_fin k) own_q8_fin
theorem own_n2 (n : Int32) : NoNaN64 (FP.dmul (own_x n) own_q6) := dmul_out (own_x_fin n) own_q6_fin
theorem own_n3 (k : Int64) {n : Int32} (h : n ≠ 0) : NoNaN64 (own_f k (own_x n)) := ddiv_out (own_n1 k) (own_y_fin n) (own_y_nz h)
theorem own_n0 (n : Int32) : NoNaN64 (FP.ddiv (FP.i2d n) own_q4) := own_x_no
theorem own_val {a : UInt64} (h : NoNaN64 a) : Core.val64 a ≠ .nan := (Core.notNaN_iff a).mp (noNaN64_no.mp h)
theorem own_eq {a b : UInt64} (ha : NoNaN64 a) (hb : NoNaN64 b) (za : Nz64 a) (zb : Nz64 b) (h : FP.dcmp a b = some .eq) : a = b := by
  have k : dkey a = dkey b := (dcmp_eq_key (own_val ha) (own_val hb)).mp h
  have za := (nz64_iff _).mp za
  have zb := (nz64_iff _).mp zb
  have la := a.toNat_lt
  have lb := b.toNat_lt
  unfold dkey at k
  apply UInt64.toNat_inj.mp
  split at k <;> split at k <;> omega
theorem own_nz0 {a : UInt64} (ha : NoNaN64 a) (za : Nz64 a) : ¬ cmpValue (FP.dcmp a FP.dconst0) .l = 0 := by
  obtain ⟨o, ho⟩ := Jvm.Free.Fl.dcmp_of_noNaN ha (show NoNaN64 FP.dconst0 by decide)
  have hne : o ≠ .eq := fun q => by
    subst q
    have k : dkey a = dkey FP.dconst0 := (dcmp_eq_key (own_val ha) (own_val (show NoNaN64 FP.dconst0 by decide))).mp ho
    have za := (nz64_iff _).mp za
    have la := a.toNat_lt
    have e0 : dkey FP.dconst0 = 0 := by decide
    rw [e0] at k
    unfold dkey at k
    split at k <;> omega
  rw [ho]
  cases o <;> first | exact absurd rfl hne | decide
def own_min (a b : UInt64) : UInt64 := if 0 < cmpValue (FP.dcmp a b) .g then b else a
def own_slow (a b : UInt64) : UInt64 := if cmpValue (FP.dcmp b a) .g < 0 then b else a
theorem own_mins {a b : UInt64} (ha : NoNaN64 a) (hb : NoNaN64 b) (za : Nz64 a) (zb : Nz64 b) : own_min a b = own_slow a b ∧ own_min b a = own_slow a b := by
  obtain ⟨o, ho⟩ := Jvm.Free.Fl.dcmp_of_noNaN hb ha
  have hs : FP.dcmp a b = some o.swap := by
    have := Core.dcmp_swap b a
    rw [show Core.dcmp b a = some o from ho] at this
    exact this
  unfold own_min own_slow
  rw [ho, hs]
  cases o with
  | lt => exact ⟨rfl, rfl⟩
  | gt => exact ⟨rfl, rfl⟩
  | eq =>
    have : b = a := own_eq hb ha zb za ho
    subst this
    exact ⟨rfl, rfl⟩
open Native.java_lang_Math.nans in
theorem own_pick {a b : UInt64} (ha : NoNaN64 a) (hb : NoNaN64 b) (za : Nz64 a) (zb : Nz64 b) : pick64 false a b = own_min a b := by
  obtain ⟨o, ho⟩ := Jvm.Free.Fl.dcmp_of_noNaN ha hb
  show (match FP.dcmp a b with | some .lt => a | some .gt => b | _ => if (a >>> 63 == 1) == false then b else a) = (if 0 < cmpValue (FP.dcmp a b) .g then b else a)
  rw [ho]
  cases o with
  | lt => rfl
  | gt => rfl
  | eq =>
    have q : a = b := own_eq ha hb za zb ho
    subst q
    show (if (a >>> 63 == 1) == false then a else a) = a
    split <;> rfl
end OwnFP
end Jvm.Pilot.@@N@@
namespace Jvm.Pilot.@@N@@
open Jvm Jvm.ClassFile Sem Op Lib Jvm.Free Jvm.Stand Jvm.LawKit Jvm.RoadKit Bundle Jvm.Pilot.@@N@@.Jvm.D
section OwnKit
variable {p : Program} {l : Launch} {e : Env} {R : Room} {s : State} {m : MethodId} {args : Array Value} {below : List Frame} {meth : Method} {c : Code} {T T' : State} {locs : List Loc} {cells slots ck sk : Nat} {wd : Bool} {Q : Option Value → Heap → List Loc → Prop} {g g' : JFrame}
/-- from the state T with the top frame g the body ends, and Q says how -/
def Goes (p : Program) (e : Env) (below : List Frame) (s : State) (wd : Bool) (ck sk : Nat) (Q : Option Value → Heap → List Loc → Prop) (T : State) (g : JFrame) : Prop :=
  ∃ s₂ o, Steps p.tables e below (T.setTop g) s₂ ∧ s₂.status = .running ∧ Ended s₂ below o ∧ ∃ v L, o = .returned v ∧ Q v s₂.heap L ∧ cond wd (ReturnedEndW s o s₂ L ck sk) (FrameEnd s o s₂ L ck sk)
theorem go (h : ∀ t, Steps p.tables e below (T'.setTop g') t → Steps p.tables e below (T.setTop g) t) (k : Goes p e below s wd ck sk Q T' g') : Goes p e below s wd ck sk Q T g := by
  obtain ⟨s₂, o, h1, r⟩ := k
  exact ⟨s₂, o, h _ h1, r⟩
theorem goV (h : Steps p.tables e below (T.setTop g) (T'.setTop g')) (k : Goes p e below s wd ck sk Q T' g') : Goes p e below s wd ck sk Q T g := go (fun _ kt => h.trans kt) k
theorem goEq (h : g = g') (k : Goes p e below s wd ck sk Q T g') : Goes p e below s wd ck sk Q T g := h ▸ k
theorem goVia {T₂ : State} {g₂ : JFrame} (h : Goes p e below s wd ck sk Q T₂ g₂ → Goes p e below s wd ck sk Q T g) (k : Goes p e below s wd ck sk Q T₂ g₂) : Goes p e below s wd ck sk Q T g := h k
theorem goRetN (X : Stand p l e R s m args below meth c T locs cells slots) (hx : p.tables.exec = Jvm.exec) (hlk : meth.locks = false) {pc : Nat} {Ls : Array Slot} {z : Int32} {t : FieldType} {rest : List Value} (hret : meth.sig.returnType = some t) (ht : t = .boolean ∨ t = .byte ∨ t = .char ∨ t = .short) (hd : decode c.code pc = .ok (.ireturn, 1))
    (hq : Q (some (.int (nar t z))) T.heap locs) (h1 : cells ≤ ck) (h2 : slots ≤ sk) : Goes p e below s false ck sk Q T (mkF m pc Ls (.int z :: rest)) := by
  obtain ⟨fs, hr, hrun, hended, hW, hsame⟩ := X.leave (v := some (.int (nar t z))) (fun h => by rw [hret] at h; cases h)
  exact ⟨_, _, retN X hx hret ht hd hr, hrun, hended, _, _, rfl, hq, ⟨_, rfl⟩, hW, hsame.mono h1 h2⟩
theorem goRetI (X : Stand p l e R s m args below meth c T locs cells slots) (hx : p.tables.exec = Jvm.exec) (hlk : meth.locks = false) {pc : Nat} {Ls : Array Slot} {z : Int32} {rest : List Value} (hret : meth.sig.returnType = some .int) (hd : decode c.code pc = .ok (.ireturn, 1))
    (hq : Q (some (.int z)) T.heap locs) (h1 : cells ≤ ck) (h2 : slots ≤ sk) : Goes p e below s false ck sk Q T (mkF m pc Ls (.int z :: rest)) := by
  obtain ⟨fs, hr, hrun, hended, hW, hsame⟩ := X.leave (v := some (.int z)) (fun h => by rw [hret] at h; cases h)
  exact ⟨_, _, retOut X hx hret rfl (Or.inl ⟨rfl, Or.inl rfl, z, rfl⟩) hd hr, hrun, hended, _, _, rfl, hq, ⟨_, rfl⟩, hW, hsame.mono h1 h2⟩
theorem goRetJ (X : Stand p l e R s m args below meth c T locs cells slots) (hx : p.tables.exec = Jvm.exec) (hlk : meth.locks = false) {pc : Nat} {Ls : Array Slot} {z : Int64} {rest : List Value} (hret : meth.sig.returnType = some .long) (hd : decode c.code pc = .ok (.lreturn, 1))
    (hq : Q (some (.long z)) T.heap locs) (h1 : cells ≤ ck) (h2 : slots ≤ sk) : Goes p e below s false ck sk Q T (mkF m pc Ls (.long z :: rest)) := by
  obtain ⟨fs, hr, hrun, hended, hW, hsame⟩ := X.leave (v := some (.long z)) (fun h => by rw [hret] at h; cases h)
  exact ⟨_, _, retOut X hx hret rfl (Or.inr (Or.inl ⟨rfl, rfl, z, rfl⟩)) hd hr, hrun, hended, _, _, rfl, hq, ⟨_, rfl⟩, hW, hsame.mono h1 h2⟩
theorem goRetA (X : Stand p l e R s m args below meth c T locs cells slots) (hx : p.tables.exec = Jvm.exec) (hlk : meth.locks = false) {pc : Nat} {Ls : Array Slot} {w : Value} {t : FieldType} {rest : List Value} (hret : meth.sig.returnType = some t) (ht : t.isReference = true) (hn : narrow t w = w) (hw : w.isRef = true) (hd : decode c.code pc = .ok (.areturn, 1))
    (hq : Q (some w) T.heap locs) (h1 : cells ≤ ck) (h2 : slots ≤ sk) : Goes p e below s false ck sk Q T (mkF m pc Ls (w :: rest)) := by
  obtain ⟨fs, hr, hrun, hended, hW, hsame⟩ := X.leave (v := some w) (fun h => by rw [hret] at h; cases h)
  exact ⟨_, _, retOut X hx hret hn (Or.inr (Or.inr (Or.inr (Or.inr ⟨rfl, ht, hw⟩)))) hd hr, hrun, hended, _, _, rfl, hq, ⟨_, rfl⟩, hW, hsame.mono h1 h2⟩
theorem goRetV (X : Stand p l e R s m args below meth c T locs cells slots) (hx : p.tables.exec = Jvm.exec) (hlk : meth.locks = false) {pc : Nat} {Ls : Array Slot} (hret : meth.sig.returnType = none) (hd : decode c.code pc = .ok (.return_, 1))
    (hq : Q none T.heap locs) (h1 : cells ≤ ck) (h2 : slots ≤ sk) : Goes p e below s false ck sk Q T (mkF m pc Ls []) := by
  obtain ⟨fs, hr, hrun, hended, hW, hsame⟩ := X.leave (v := none) (fun _ => rfl)
  exact ⟨_, _, X.returnOut hx hret hd hr, hrun, hended, _, _, rfl, hq, ⟨_, rfl⟩, hW, hsame.mono h1 h2⟩
theorem goRetD (X : Stand p l e R s m args below meth c T locs cells slots) (hx : p.tables.exec = Jvm.exec) (hlk : meth.locks = false) {pc : Nat} {Ls : Array Slot} {z : UInt64} {rest : List Value} (hret : meth.sig.returnType = some .double) (hd : decode c.code pc = .ok (.dreturn, 1))
    (hq : Q (some (.double z)) T.heap locs) (h1 : cells ≤ ck) (h2 : slots ≤ sk) : Goes p e below s false ck sk Q T (mkF m pc Ls (.double z :: rest)) := by
  obtain ⟨fs, hr, hrun, hended, hW, hsame⟩ := X.leave (v := some (.double z)) (fun h => by rw [hret] at h; cases h)
  exact ⟨_, _, retOut X hx hret rfl (Or.inr (Or.inr (Or.inl ⟨rfl, rfl, z, rfl⟩))) hd hr, hrun, hended, _, _, rfl, hq, ⟨_, rfl⟩, hW, hsame.mono h1 h2⟩
theorem goRetNW {vm0 : Vm} {kk : Nat} (X : Stand p l e R (s.setVm vm0) m args below meth c T locs cells slots) (hx : p.tables.exec = Jvm.exec) (hlk : meth.locks = false) (hS : s.Since vm0 kk) (hk : kk ≤ T.heap.size) {pc : Nat} {Ls : Array Slot} {z : Int32} {t : FieldType} {rest : List Value} (hret : meth.sig.returnType = some t) (ht : t = .boolean ∨ t = .byte ∨ t = .char ∨ t = .short) (hd : decode c.code pc = .ok (.ireturn, 1))
    (hq : Q (some (.int (nar t z))) T.heap locs) (h1 : cells ≤ ck) (h2 : slots ≤ sk) : Goes p e below s true ck sk Q T (mkF m pc Ls (.int z :: rest)) := by
  obtain ⟨fs, hr, hrun, hended, hend⟩ := X.leaveW hS hk (v := some (.int (nar t z))) (fun h => by rw [hret] at h; cases h)
  exact ⟨_, _, retN X hx hret ht hd hr, hrun, hended, _, _, rfl, hq, hend.1, hend.2.1, hend.2.2.1, hend.2.2.2.mono h1 h2⟩
theorem goRetIW {vm0 : Vm} {kk : Nat} (X : Stand p l e R (s.setVm vm0) m args below meth c T locs cells slots) (hx : p.tables.exec = Jvm.exec) (hlk : meth.locks = false) (hS : s.Since vm0 kk) (hk : kk ≤ T.heap.size) {pc : Nat} {Ls : Array Slot} {z : Int32} {rest : List Value} (hret : meth.sig.returnType = some .int) (hd : decode c.code pc = .ok (.ireturn, 1))
    (hq : Q (some (.int z)) T.heap locs) (h1 : cells ≤ ck) (h2 : slots ≤ sk) : Goes p e below s true ck sk Q T (mkF m pc Ls (.int z :: rest)) := by
  obtain ⟨fs, hr, hrun, hended, hend⟩ := X.leaveW hS hk (v := some (.int z)) (fun h => by rw [hret] at h; cases h)
  exact ⟨_, _, retOut X hx hret rfl (Or.inl ⟨rfl, Or.inl rfl, z, rfl⟩) hd hr, hrun, hended, _, _, rfl, hq, hend.1, hend.2.1, hend.2.2.1, hend.2.2.2.mono h1 h2⟩
theorem goRetJW {vm0 : Vm} {kk : Nat} (X : Stand p l e R (s.setVm vm0) m args below meth c T locs cells slots) (hx : p.tables.exec = Jvm.exec) (hlk : meth.locks = false) (hS : s.Since vm0 kk) (hk : kk ≤ T.heap.size) {pc : Nat} {Ls : Array Slot} {z : Int64} {rest : List Value} (hret : meth.sig.returnType = some .long) (hd : decode c.code pc = .ok (.lreturn, 1))
    (hq : Q (some (.long z)) T.heap locs) (h1 : cells ≤ ck) (h2 : slots ≤ sk) : Goes p e below s true ck sk Q T (mkF m pc Ls (.long z :: rest)) := by
  obtain ⟨fs, hr, hrun, hended, hend⟩ := X.leaveW hS hk (v := some (.long z)) (fun h => by rw [hret] at h; cases h)
  exact ⟨_, _, retOut X hx hret rfl (Or.inr (Or.inl ⟨rfl, rfl, z, rfl⟩)) hd hr, hrun, hended, _, _, rfl, hq, hend.1, hend.2.1, hend.2.2.1, hend.2.2.2.mono h1 h2⟩
theorem goRetAW {vm0 : Vm} {kk : Nat} (X : Stand p l e R (s.setVm vm0) m args below meth c T locs cells slots) (hx : p.tables.exec = Jvm.exec) (hlk : meth.locks = false) (hS : s.Since vm0 kk) (hk : kk ≤ T.heap.size) {pc : Nat} {Ls : Array Slot} {w : Value} {t : FieldType} {rest : List Value} (hret : meth.sig.returnType = some t) (ht : t.isReference = true) (hn : narrow t w = w) (hw : w.isRef = true) (hd : decode c.code pc = .ok (.areturn, 1))
    (hq : Q (some w) T.heap locs) (h1 : cells ≤ ck) (h2 : slots ≤ sk) : Goes p e below s true ck sk Q T (mkF m pc Ls (w :: rest)) := by
  obtain ⟨fs, hr, hrun, hended, hend⟩ := X.leaveW hS hk (v := some w) (fun h => by rw [hret] at h; cases h)
  exact ⟨_, _, retOut X hx hret hn (Or.inr (Or.inr (Or.inr (Or.inr ⟨rfl, ht, hw⟩)))) hd hr, hrun, hended, _, _, rfl, hq, hend.1, hend.2.1, hend.2.2.1, hend.2.2.2.mono h1 h2⟩
theorem goRetVW {vm0 : Vm} {kk : Nat} (X : Stand p l e R (s.setVm vm0) m args below meth c T locs cells slots) (hx : p.tables.exec = Jvm.exec) (hlk : meth.locks = false) (hS : s.Since vm0 kk) (hk : kk ≤ T.heap.size) {pc : Nat} {Ls : Array Slot} (hret : meth.sig.returnType = none) (hd : decode c.code pc = .ok (.return_, 1))
    (hq : Q none T.heap locs) (h1 : cells ≤ ck) (h2 : slots ≤ sk) : Goes p e below s true ck sk Q T (mkF m pc Ls []) := by
  obtain ⟨fs, hr, hrun, hended, hend⟩ := X.leaveW hS hk (v := none) (fun _ => rfl)
  exact ⟨_, _, X.returnOut hx hret hd hr, hrun, hended, _, _, rfl, hq, hend.1, hend.2.1, hend.2.2.1, hend.2.2.2.mono h1 h2⟩
theorem goRetDW {vm0 : Vm} {kk : Nat} (X : Stand p l e R (s.setVm vm0) m args below meth c T locs cells slots) (hx : p.tables.exec = Jvm.exec) (hlk : meth.locks = false) (hS : s.Since vm0 kk) (hk : kk ≤ T.heap.size) {pc : Nat} {Ls : Array Slot} {z : UInt64} {rest : List Value} (hret : meth.sig.returnType = some .double) (hd : decode c.code pc = .ok (.dreturn, 1))
    (hq : Q (some (.double z)) T.heap locs) (h1 : cells ≤ ck) (h2 : slots ≤ sk) : Goes p e below s true ck sk Q T (mkF m pc Ls (.double z :: rest)) := by
  obtain ⟨fs, hr, hrun, hended, hend⟩ := X.leaveW hS hk (v := some (.double z)) (fun h => by rw [hret] at h; cases h)
  exact ⟨_, _, retOut X hx hret rfl (Or.inr (Or.inr (Or.inl ⟨rfl, rfl, z, rfl⟩))) hd hr, hrun, hended, _, _, rfl, hq, hend.1, hend.2.1, hend.2.2.1, hend.2.2.2.mono h1 h2⟩
theorem own_l0 {x y : Int64} (h : x = y) : ifCond.holds .eq (lcmpW x y) = true ∧ ifCond.holds .ne (lcmpW x y) = false := by rw [if0, if0]; exact teq ((lw_eq x y).mpr h)
theorem own_l1 {x y : Int64} (h : ¬ x = y) : ifCond.holds .eq (lcmpW x y) = false ∧ ifCond.holds .ne (lcmpW x y) = true := by rw [if0, if0]; exact feq fun q => h ((lw_eq x y).mp q)
theorem own_l2 {x y : Int64} (h : x < y) : ifCond.holds .lt (lcmpW x y) = true ∧ ifCond.holds .ge (lcmpW x y) = false := by rw [if0, if0]; exact ⟨(tlt ((lw_lt x y).mpr h)).1, (tlt ((lw_lt x y).mpr h)).2.1⟩
theorem own_l3 {x y : Int64} (h : ¬ x < y) : ifCond.holds .lt (lcmpW x y) = false ∧ ifCond.holds .ge (lcmpW x y) = true := by
  rw [if0, if0]
  have q : ¬ lcmpW x y < 0 := fun q => h ((lw_lt x y).mp q)
  exact ⟨(flt q).1, (flt q).2.1⟩
theorem own_l4 {x y : Int64} (h : y < x) : ifCond.holds .gt (lcmpW x y) = true ∧ ifCond.holds .le (lcmpW x y) = false := by rw [if0, if0]; exact ⟨(tlt ((lw_gt x y).mpr h)).2.2.1, (tlt ((lw_gt x y).mpr h)).2.2.2⟩
theorem own_l5 {x y : Int64} (h : ¬ y < x) : ifCond.holds .gt (lcmpW x y) = false ∧ ifCond.holds .le (lcmpW x y) = true := by
  rw [if0, if0]
  have q : ¬ 0 < lcmpW x y := fun q => h ((lw_gt x y).mp q)
  exact ⟨(flt q).2.2.1, (flt q).2.2.2⟩
def Two (a b : Slot) : Prop := (a = .unset ∧ b = .unset) ∨ ∃ w, a = .val (.long w) ∧ b = .second
theorem Two.u : Two .unset .unset := Or.inl ⟨rfl, rfl⟩
theorem Two.val {w : Int64} : Two (.val (.long w)) .second := Or.inr ⟨w, rfl, rfl⟩
end OwnKit
theorem nn_toInt {i : Nat} (h : i < 2 ^ 31) : (Int32.ofNat i).toInt = i := Int32.toInt_ofNat_of_lt h
theorem nn_nat {i : Nat} (h : i < 2 ^ 31) : (Int32.ofNat i).toNatClampNeg = i := by
  simp only [Int32.toNatClampNeg, nn_toInt h]; rfl
theorem nn_lt {i j : Nat} (hi : i < 2 ^ 31) (hj : j < 2 ^ 31) : Int32.ofNat i < Int32.ofNat j ↔ i < j := by
  rw [Int32.lt_iff_toInt_lt, nn_toInt hi, nn_toInt hj]; omega
theorem nn_eq {i j : Nat} (hi : i < 2 ^ 31) (hj : j < 2 ^ 31) : Int32.ofNat i = Int32.ofNat j ↔ i = j := by
  rw [← Int32.toInt_inj, nn_toInt hi, nn_toInt hj]; omega
theorem nn_add (i j : Nat) : Int32.ofNat i + Int32.ofNat j = Int32.ofNat (i + j) := (Int32.ofNat_add i j).symm
theorem nn_mul (i j : Nat) : Int32.ofNat i * Int32.ofNat j = Int32.ofNat (i * j) := (Int32.ofNat_mul i j).symm
theorem nn_sub {i j : Nat} (h : j ≤ i) : Int32.ofNat i - Int32.ofNat j = Int32.ofNat (i - j) := by
  rw [Int32.sub_eq_iff_eq_add, nn_add, Nat.sub_add_cancel h]
theorem nn_of {x : Int32} (h : 0 ≤ x.toInt) : x = Int32.ofNat x.toInt.toNat := by
  apply Int32.toInt_inj.mp
  have := x.toInt_lt
  rw [nn_toInt (by omega)]; omega
theorem nn_neg {i : Nat} (hi : i < 2 ^ 31) : ¬ Int32.ofNat i < 0 := by
  intro q; have q := Int32.lt_iff_toInt_lt.mp q; rw [nn_toInt hi] at q; simp at q; omega
theorem own_and31 (x : Int32) : 0 ≤ (x &&& 2147483647).toInt := by
  have h : (x &&& 2147483647).toBitVec.msb = false := by
    show (x.toBitVec &&& 2147483647#32).msb = false
    rw [BitVec.msb_and, show (2147483647#32).msb = false from by decide, Bool.and_false]
  show 0 ≤ (x &&& 2147483647).toBitVec.toInt
  rw [BitVec.toInt_eq_msb_cond, h]; simp
theorem nn_rem {x : Int32} (h : 0 ≤ x.toInt) {k : Nat} (hk : 0 < k) (hk2 : k < 2 ^ 31) : ∃ i, i < k ∧ x % Int32.ofNat k = Int32.ofNat i := by
  have e : (x % Int32.ofNat k).toInt = x.toInt.tmod k := by rw [Int32.toInt_mod, nn_toInt hk2]
  have h1 : 0 ≤ x.toInt.tmod k := Int.tmod_nonneg _ h
  have h2 : x.toInt.tmod k < k := Int.tmod_lt_of_pos _ (by omega)
  refine ⟨(x % Int32.ofNat k).toInt.toNat, by omega, nn_of (by omega)⟩
theorem own_mask64 (x : Int64) : 0 ≤ (x &&& 9223372036854775807).toInt := by
  have h : (x &&& 9223372036854775807).toBitVec.msb = false := by
    show (x.toBitVec &&& 9223372036854775807#64).msb = false
    rw [BitVec.msb_and, show (9223372036854775807#64).msb = false from by decide, Bool.and_false]
  show 0 ≤ (x &&& 9223372036854775807).toBitVec.toInt
  rw [BitVec.toInt_eq_msb_cond, h]; simp
theorem own_and7 (x : Int32) : ∃ i, i < 8 ∧ x &&& 7 = Int32.ofNat i := by
  refine ⟨(x &&& 7).toBitVec.toNat, ?_, ?_⟩
  · show (x.toBitVec &&& 7#32).toNat < 8
    rw [BitVec.toNat_and]; exact Nat.lt_of_le_of_lt Nat.and_le_right (by decide)
  · apply Int32.toBitVec_inj.mp
    show _ = BitVec.ofNat 32 _
    rw [BitVec.ofNat_toNat, BitVec.setWidth_eq]
theorem own_andk (x : Int32) {k : Nat} (hk : k < 2 ^ 32) : ∃ i, i ≤ k ∧ x &&& Int32.ofNat k = Int32.ofNat i := by
  refine ⟨(x &&& Int32.ofNat k).toBitVec.toNat, ?_, ?_⟩
  · show (x.toBitVec &&& BitVec.ofNat 32 k).toNat ≤ k
    rw [BitVec.toNat_and, BitVec.toNat_ofNat, Nat.mod_eq_of_lt hk]; exact Nat.and_le_right
  · apply Int32.toBitVec_inj.mp
    show _ = BitVec.ofNat 32 _
    rw [BitVec.ofNat_toNat, BitVec.setWidth_eq]
open Jvm.Free.Fl in
theorem own_np (p : Int32) : (p &&& 65535) + 1 ≠ 0 := by
  obtain ⟨i, hi, e⟩ : ∃ i, i ≤ 65535 ∧ p &&& (65535 : Int32) = Int32.ofNat i := own_andk p (k := 65535) (by decide)
  rw [e, show Int32.ofNat i + (1 : Int32) = Int32.ofNat (i + 1) from nn_add i 1]
  intro q
  have := (nn_eq (j := 0) (by omega) (by omega)).mp q
  omega
theorem own_wS {Z : State} {a0 : Array Value} (hw : ∀ d ∈ tables_1, d.before a0 Z = true) : ∀ a ∈ Bundle.stringAtoms, a.before a0 Z = true := fun d hd => by
  simp only [Bundle.stringAtoms, List.mem_cons, List.not_mem_nil, or_false] at hd
  rcases hd with rfl | rfl | rfl | rfl | rfl | rfl | rfl
  · exact hw _ (List.mem_of_getElem? (i := 7) rfl)
  · exact hw _ (List.mem_of_getElem? (i := 8) rfl)
  · exact hw _ (List.mem_of_getElem? (i := 9) rfl)
  · exact hw _ (List.mem_of_getElem? (i := 10) rfl)
  · exact hw _ (List.mem_of_getElem? (i := 11) rfl)
  · exact hw _ (List.mem_of_getElem? (i := 12) rfl)
  · exact hw _ (List.mem_of_getElem? (i := 13) rfl)
theorem own_npick (P : Prop) [Decidable P] (p : Int32) {na : Int32} (h : na ≠ 0) : (if P then (p &&& (65535 : Int32)) + 1 else na) ≠ 0 := by
  split
  · exact own_np _
  · exact h
theorem own_pickx {na nb : Int32} (ha : na ≠ 0) (hb : nb ≠ 0) : ∃ n, n ≠ 0 ∧ own_min (own_x na) (own_x nb) = own_x n := by
  unfold own_min; split
  · exact ⟨nb, hb, rfl⟩
  · exact ⟨na, ha, rfl⟩
theorem own_picks {na nb : Int32} (ha : na ≠ 0) (hb : nb ≠ 0) : ∃ n, n ≠ 0 ∧ own_slow (own_x na) (own_x nb) = own_x n := by
  unfold own_slow; split
  · exact ⟨nb, hb, rfl⟩
  · exact ⟨na, ha, rfl⟩

theorem d1_0 : decode prog_12_method_1_code 0 = .ok (.aload_n 0, 1) := by decide +kernel
theorem d1_1 : decode prog_12_method_1_code 1 = .ok (.invokespecial 1, 3) := by decide +kernel
theorem d1_4 : decode prog_12_method_1_code 4 = .ok (.aload_n 0, 1) := by decide +kernel
theorem d1_5 : decode prog_12_method_1_code 5 = .ok (.aload_n 1, 1) := by decide +kernel
theorem d1_6 : decode prog_12_method_1_code 6 = .ok (.putfield 7, 3) := by decide +kernel
theorem d1_9 : decode prog_12_method_1_code 9 = .ok (.aload_n 0, 1) := by decide +kernel
theorem d1_10 : decode prog_12_method_1_code 10 = .ok (.aload_n 2, 1) := by decide +kernel
theorem d1_11 : decode prog_12_method_1_code 11 = .ok (.putfield 13, 3) := by decide +kernel
theorem d1_14 : decode prog_12_method_1_code 14 = .ok (.aload_n 0, 1) := by decide +kernel
theorem d1_15 : decode prog_12_method_1_code 15 = .ok (.iload_n 3, 1) := by decide +kernel
theorem d1_16 : decode prog_12_method_1_code 16 = .ok (.putfield 16, 3) := by decide +kernel
theorem d1_19 : decode prog_12_method_1_code 19 = .ok (.aload_n 0, 1) := by decide +kernel
theorem d1_20 : decode prog_12_method_1_code 20 = .ok (.dload 4, 2) := by decide +kernel
theorem d1_22 : decode prog_12_method_1_code 22 = .ok (.putfield 20, 3) := by decide +kernel
theorem d1_25 : decode prog_12_method_1_code 25 = .ok (.aload_n 0, 1) := by decide +kernel
theorem d1_26 : decode prog_12_method_1_code 26 = .ok (.dload 6, 2) := by decide +kernel
theorem d1_28 : decode prog_12_method_1_code 28 = .ok (.putfield 24, 3) := by decide +kernel
theorem d1_31 : decode prog_12_method_1_code 31 = .ok (.aload_n 0, 1) := by decide +kernel
theorem d1_32 : decode prog_12_method_1_code 32 = .ok (.dload 8, 2) := by decide +kernel
theorem d1_34 : decode prog_12_method_1_code 34 = .ok (.putfield 27, 3) := by decide +kernel
theorem d1_37 : decode prog_12_method_1_code 37 = .ok (.return_, 1) := by decide +kernel
theorem pn_1 : plainName "com/example/tidemark/tidemark/VmType" = true := by first | (simp [plainName, overriddenIn]; done) | decide +kernel
theorem ef_1 (m : MethodId) (a1 : Addr) (a2 : Addr) (a3 : Addr) (p1 : Int32) (d1 : UInt64) (d2 : UInt64) (d3 : UInt64) : entryFrame m #[(.ref a1), (.ref a2), (.ref a3), (.int p1), (.double d1), (.double d2), (.double d3)] 10 = mkF m 0 #[.val (.ref a1), .val (.ref a2), .val (.ref a3), .val (.int p1), .val (.double d1), .second, .val (.double d2), .second, .val (.double d3), .second] [] := by first | (simp [entryFrame, mkF, argsToLocals, Value.category]; done) | rfl
def Q1 (Z : State) (a1 : Addr) (a2 : Addr) (a3 : Addr) (p1 : Int32) (d1 : UInt64) (d2 : UInt64) (d3 : UInt64) (h0 : Heap) (n0 : Nat) (v : Option Value) (h : Heap) (L : List Loc) : Prop := v = none ∧ Fr n0 L ∧ Keep h0 h [a1] ∧ Fld Z h a1 "com/example/tidemark/tidemark/VmType" "bandwidthMbps" "D" (.double d1)
set_option maxRecDepth 65536 in
set_option maxHeartbeats 40000000 in
theorem rm1 (l : Launch) (Z : State) (a0 : Array Value) (hw : ∀ d ∈ tables_1, d.before a0 Z = true) (ws : List Jvm.Cond) (a1 : Addr) (a2 : Addr) (a3 : Addr) (p1 : Int32) (d1 : UInt64) (d2 : UInt64) (d3 : UInt64) (h0 : Heap) (n0 : Nat) (Z0 : n0 ≤ h0.size) (g_a1 : n0 ≤ a1) (E1 : Exa Z h0 a1 "com/example/tidemark/tidemark/VmType") (F0 : Fld Z h0 a1 "com/example/tidemark/tidemark/VmType" "name" "Ljava/lang/String;" .null) (F1 : Fld Z h0 a1 "com/example/tidemark/tidemark/VmType" "family" "Ljava/lang/String;" .null) (F2 : Fld Z h0 a1 "com/example/tidemark/tidemark/VmType" "vcpus" "I" (.int (0 : Int32))) (F3 : Fld Z h0 a1 "com/example/tidemark/tidemark/VmType" "bandwidthMbps" "D" (.double 0)) (F4 : Fld Z h0 a1 "com/example/tidemark/tidemark/VmType" "pricePerHour" "D" (.double 0)) (F5 : Fld Z h0 a1 "com/example/tidemark/tidemark/VmType" "speedFactor" "D" (.double 0)) :
    MetFree l (⟨"com/example/tidemark/tidemark/VmType", "<init>", "(Ljava/lang/String;Ljava/lang/String;IDDD)V"⟩ : MethodName) (head1 (Jvm.Cond.code (⟨"com/example/tidemark/tidemark/VmType", "<init>", "(Ljava/lang/String;Ljava/lang/String;IDDD)V"⟩ : MethodName) prog_12_method_1_code 10 none :: ws) ({ frames := 1, cells := 0, slots := 0, locals := 12 } : Room)) (fun a U => a = #[(.ref a1), (.ref a2), (.ref a3), (.int p1), (.double d1), (.double d2), (.double d3)] ∧ Z.Warmed39 U.vm ∧ U.heap = h0) (fun _ _ _ _ _ => True) (fun _ U o U' => ∃ v L, o = .returned v ∧ Q1 Z a1 a2 a3 p1 d1 d2 d3 h0 n0 v U'.heap L ∧ FrameEnd U o U' L ({ frames := 1, cells := 0, slots := 0, locals := 12 } : Room).cells ({ frames := 1, cells := 0, slots := 0, locals := 12 } : Room).slots) := by
  refine MetFree.of_bodySF (plainFor_of_name pn_1) hisR ?_
  intro p e s m args below meth c s₁ Bd hml0 hP hK
  obtain ⟨rfl, hZ, hh⟩ := hP
  have hx := Bd.exec
  have hby := Bd.bytes
  have hlk := Bd.notSynchronized
  have hml : c.maxLocals = 10 := hml0
  have hown : s.vm.findClass "com/example/tidemark/tidemark/VmType" = some m.cls := findClass_of_methodNamed Bd.named
  have hnm := (name_of_methodNamed Bd.named Bd.method).1
  have X0 : Stand p l e ({ frames := 1, cells := 0, slots := 0, locals := 12 } : Room) s m #[(.ref a1), (.ref a2), (.ref a3), (.int p1), (.double d1), (.double d2), (.double d3)] below meth c s₁ [] 0 0 := Stand.of_body Bd
  have e0 : s₁.heap = h0 := by rw [← hh, Bd.state]; rfl
  have N0 := Fr.nil n0
  show Goes p e below s false 0 0 (Q1 Z a1 a2 a3 p1 d1 d2 d3 h0 n0) s₁ (entryFrame m #[(.ref a1), (.ref a2), (.ref a3), (.int p1), (.double d1), (.double d2), (.double d3)] 10)
  refine goEq (ef_1 m a1 a2 a3 p1 d1 d2 d3) ?_
  refine go (T' := s₁) (g' := (mkF m 1 #[.val (.ref a1), .val (.ref a2), .val (.ref a3), .val (.int p1), .val (.double d1), .second, .val (.double d2), .second, .val (.double d3), .second] [(.ref a1)])) (fun t kt => XS.aloadN X0.here hx rfl (hb hby d1_0) rfl rfl kt) ?_
  obtain ⟨T1001, X1001, e1001, st1001⟩ := initO X0 hx hZ hown (hw _ (List.mem_of_getElem? (i := 18) rfl)) (hw _ (List.mem_of_getElem? (i := 19) rfl)) (hw _ (List.mem_of_getElem? (i := 20) rfl)) e0 (g := (mkF m 1 #[.val (.ref a1), .val (.ref a2), .val (.ref a3), .val (.int p1), .val (.double d1), .second, .val (.double d2), .second, .val (.double d3), .second] [(.ref a1)])) rfl (by rw [hml]; rfl) rfl (hb hby d1_1) (by decide) (W := 0) (by show 2 * 0 + _ ≤ _; exact Nat.le_of_eq rfl) (by decide)
  refine go (T' := T1001) (g' := (mkF m 4 #[.val (.ref a1), .val (.ref a2), .val (.ref a3), .val (.int p1), .val (.double d1), .second, .val (.double d2), .second, .val (.double d3), .second] [])) st1001 ?_
  refine go (T' := T1001) (g' := (mkF m 5 #[.val (.ref a1), .val (.ref a2), .val (.ref a3), .val (.int p1), .val (.double d1), .second, .val (.double d2), .second, .val (.double d3), .second] [(.ref a1)])) (fun t kt => XS.aloadN X1001.here hx rfl (hb hby d1_4) rfl rfl kt) ?_
  refine go (T' := T1001) (g' := (mkF m 6 #[.val (.ref a1), .val (.ref a2), .val (.ref a3), .val (.int p1), .val (.double d1), .second, .val (.double d2), .second, .val (.double d3), .second] [(.ref a2), (.ref a1)])) (fun t kt => XS.aloadN X1001.here hx rfl (hb hby d1_5) rfl rfl kt) ?_
  obtain ⟨T1002, h1002, X1002, e1002, W1002, st1002⟩ := putF X1001 hx hZ hown (host := "") (Or.inl (hw _ (List.mem_of_getElem? (i := 21) rfl))) Via.refl e1001 F0 E1 (Or.inr ⟨(hw _ (List.mem_of_getElem? (i := 22) rfl)), rfl, hnm⟩) (hw _ (List.mem_of_getElem? (i := 4) rfl)) (ty := (.object "java/lang/String")) (by decide) rfl rfl (g := (mkF m 6 #[.val (.ref a1), .val (.ref a2), .val (.ref a3), .val (.int p1), .val (.double d1), .second, .val (.double d2), .second, .val (.double d3), .second] [(.ref a2), (.ref a1)])) rfl rfl (hb hby d1_6)
  have z1002 : n0 ≤ h1002.size := Nat.le_trans Z0 (Keep.of_wr W1002).1
  have fE_a1_1002 : Exa Z h1002 a1 "com/example/tidemark/tidemark/VmType" := E1.wr W1002
  have fF_a1_family_1002 : Fld Z h1002 a1 "com/example/tidemark/tidemark/VmType" "family" "Ljava/lang/String;" .null := F1.other W1002 (Or.inr (slot_ne (Or.inr (hw _ (List.mem_of_getElem? (i := 24) rfl))) (Or.inr (hw _ (List.mem_of_getElem? (i := 22) rfl))) (by decide) (t := (.object "java/lang/String")) (t' := (.object "java/lang/String")) (by decide) (by decide)))
  have fF_a1_vcpus_1002 : Fld Z h1002 a1 "com/example/tidemark/tidemark/VmType" "vcpus" "I" (.int (0 : Int32)) := F2.other W1002 (Or.inr (slot_ne (Or.inr (hw _ (List.mem_of_getElem? (i := 26) rfl))) (Or.inr (hw _ (List.mem_of_getElem? (i := 22) rfl))) (by decide) (t := .int) (t' := (.object "java/lang/String")) (by decide) (by decide)))
  have fF_a1_bandwidthMbps_1002 : Fld Z h1002 a1 "com/example/tidemark/tidemark/VmType" "bandwidthMbps" "D" (.double 0) := F3.other W1002 (Or.inr (slot_ne (Or.inr (hw _ (List.mem_of_getElem? (i := 28) rfl))) (Or.inr (hw _ (List.mem_of_getElem? (i := 22) rfl))) (by decide) (t := .double) (t' := (.object "java/lang/String")) (by decide) (by decide)))
  have fF_a1_pricePerHour_1002 : Fld Z h1002 a1 "com/example/tidemark/tidemark/VmType" "pricePerHour" "D" (.double 0) := F4.other W1002 (Or.inr (slot_ne (Or.inr (hw _ (List.mem_of_getElem? (i := 30) rfl))) (Or.inr (hw _ (List.mem_of_getElem? (i := 22) rfl))) (by decide) (t := .double) (t' := (.object "java/lang/String")) (by decide) (by decide)))
  have fF_a1_speedFactor_1002 : Fld Z h1002 a1 "com/example/tidemark/tidemark/VmType" "speedFactor" "D" (.double 0) := F5.other W1002 (Or.inr (slot_ne (Or.inr (hw _ (List.mem_of_getElem? (i := 32) rfl))) (Or.inr (hw _ (List.mem_of_getElem? (i := 22) rfl))) (by decide) (t := .double) (t' := (.object "java/lang/String")) (by decide) (by decide)))
  have Fw1002 : Fld Z h1002 a1 "com/example/tidemark/tidemark/VmType" "name" "Ljava/lang/String;" (.ref a2) := F0.same W1002
  have K1002 : Keep h0 h1002 [a1] := (Keep.refl h0 [a1]).wr W1002 (Or.inl (List.mem_of_getElem? (i := 0) rfl))
  have N1002 := Fr.snoc X1002 N0 g_a1
  refine go (T' := T1002) (g' := (mkF m 9 #[.val (.ref a1), .val (.ref a2), .val (.ref a3), .val (.int p1), .val (.double d1), .second, .val (.double d2), .second, .val (.double d3), .second] [])) st1002 ?_
  refine go (T' := T1002) (g' := (mkF m 10 #[.val (.ref a1), .val (.ref a2), .val (.ref a3), .val (.int p1), .val (.double d1), .second, .val (.double d2), .second, .val (.double d3), .second] [(.ref a1)])) (fun t kt => XS.aloadN X1002.here hx rfl (hb hby d1_9) rfl rfl kt) ?_
  refine go (T' := T1002) (g' := (mkF m 11 #[.val (.ref a1), .val (.ref a2), .val (.ref a3), .val (.int p1), .val (.double d1), .second, .val (.double d2), .second, .val (.double d3), .second] [(.ref a3), (.ref a1)])) (fun t kt => XS.aloadN X1002.here hx rfl (hb hby d1_10) rfl rfl kt) ?_
  obtain ⟨T1003, h1003, X1003, e1003, W1003, st1003⟩ := putF X1002 hx hZ hown (host := "") (Or.inl (hw _ (List.mem_of_getElem? (i := 23) rfl))) Via.refl e1002 fF_a1_family_1002 fE_a1_1002 (Or.inr ⟨(hw _ (List.mem_of_getElem? (i := 24) rfl)), rfl, hnm⟩) (hw _ (List.mem_of_getElem? (i := 4) rfl)) (ty := (.object "java/lang/String")) (by decide) rfl rfl (g := (mkF m 11 #[.val (.ref a1), .val (.ref a2), .val (.ref a3), .val (.int p1), .val (.double d1), .second, .val (.double d2), .second, .val (.double d3), .second] [(.ref a3), (.ref a1)])) rfl rfl (hb hby d1_11)
  have z1003 : n0 ≤ h1003.size := Nat.le_trans z1002 (Keep.of_wr W1003).1
  have fE_a1_1003 : Exa Z h1003 a1 "com/example/tidemark/tidemark/VmType" := fE_a1_1002.wr W1003
  have fF_a1_name_1003 : Fld Z h1003 a1 "com/example/tidemark/tidemark/VmType" "name" "Ljava/lang/String;" (.ref a2) := Fw1002.other W1003 (Or.inr (slot_ne (Or.inr (hw _ (List.mem_of_getElem? (i := 22) rfl))) (Or.inr (hw _ (List.mem_of_getElem? (i := 24) rfl))) (by decide) (t := (.object "java/lang/String")) (t' := (.object "java/lang/String")) (by decide) (by decide)))
  have fF_a1_vcpus_1003 : Fld Z h1003 a1 "com/example/tidemark/tidemark/VmType" "vcpus" "I" (.int (0 : Int32)) := fF_a1_vcpus_1002.other W1003 (Or.inr (slot_ne (Or.inr (hw _ (List.mem_of_getElem? (i := 26) rfl))) (Or.inr (hw _ (List.mem_of_getElem? (i := 24) rfl))) (by decide) (t := .int) (t' := (.object "java/lang/String")) (by decide) (by decide)))
  have fF_a1_bandwidthMbps_1003 : Fld Z h1003 a1 "com/example/tidemark/tidemark/VmType" "bandwidthMbps" "D" (.double 0) := fF_a1_bandwidthMbps_1002.other W1003 (Or.inr (slot_ne (Or.inr (hw _ (List.mem_of_getElem? (i := 28) rfl))) (Or.inr (hw _ (List.mem_of_getElem? (i := 24) rfl))) (by decide) (t := .double) (t' := (.object "java/lang/String")) (by decide) (by decide)))
  have fF_a1_pricePerHour_1003 : Fld Z h1003 a1 "com/example/tidemark/tidemark/VmType" "pricePerHour" "D" (.double 0) := fF_a1_pricePerHour_1002.other W1003 (Or.inr (slot_ne (Or.inr (hw _ (List.mem_of_getElem? (i := 30) rfl))) (Or.inr (hw _ (List.mem_of_getElem? (i := 24) rfl))) (by decide) (t := .double) (t' := (.object "java/lang/String")) (by decide) (by decide)))
  have fF_a1_speedFactor_1003 : Fld Z h1003 a1 "com/example/tidemark/tidemark/VmType" "speedFactor" "D" (.double 0) := fF_a1_speedFactor_1002.other W1003 (Or.inr (slot_ne (Or.inr (hw _ (List.mem_of_getElem? (i := 32) rfl))) (Or.inr (hw _ (List.mem_of_getElem? (i := 24) rfl))) (by decide) (t := .double) (t' := (.object "java/lang/String")) (by decide) (by decide)))
  have Fw1003 : Fld Z h1003 a1 "com/example/tidemark/tidemark/VmType" "family" "Ljava/lang/String;" (.ref a3) := fF_a1_family_1002.same W1003
  have K1003 : Keep h0 h1003 [a1] := K1002.wr W1003 (Or.inl (List.mem_of_getElem? (i := 0) rfl))
  have N1003 := Fr.snoc X1003 N1002 g_a1
  refine go (T' := T1003) (g' := (mkF m 14 #[.val (.ref a1), .val (.ref a2), .val (.ref a3), .val (.int p1), .val (.double d1), .second, .val (.double d2), .second, .val (.double d3), .second] [])) st1003 ?_
  refine go (T' := T1003) (g' := (mkF m 15 #[.val (.ref a1), .val (.ref a2), .val (.ref a3), .val (.int p1), .val (.double d1), .second, .val (.double d2), .second, .val (.double d3), .second] [(.ref a1)])) (fun t kt => XS.aloadN X1003.here hx rfl (hb hby d1_14) rfl rfl kt) ?_
  refine go (T' := T1003) (g' := (mkF m 16 #[.val (.ref a1), .val (.ref a2), .val (.ref a3), .val (.int p1), .val (.double d1), .second, .val (.double d2), .second, .val (.double d3), .second] [(.int p1), (.ref a1)])) (fun t kt => XS.iloadN X1003.here hx rfl (hb hby d1_15) rfl kt) ?_
  obtain ⟨T1004, h1004, X1004, e1004, W1004, st1004⟩ := putF X1003 hx hZ hown (host := "") (Or.inl (hw _ (List.mem_of_getElem? (i := 25) rfl))) Via.refl e1003 fF_a1_vcpus_1003 fE_a1_1003 (Or.inr ⟨(hw _ (List.mem_of_getElem? (i := 26) rfl)), rfl, hnm⟩) (hw _ (List.mem_of_getElem? (i := 4) rfl)) (ty := .int) (by decide) rfl rfl (g := (mkF m 16 #[.val (.ref a1), .val (.ref a2), .val (.ref a3), .val (.int p1), .val (.double d1), .second, .val (.double d2), .second, .val (.double d3), .second] [(.int p1), (.ref a1)])) rfl rfl (hb hby d1_16)
  have z1004 : n0 ≤ h1004.size := Nat.le_trans z1003 (Keep.of_wr W1004).1
  have fE_a1_1004 : Exa Z h1004 a1 "com/example/tidemark/tidemark/VmType" := fE_a1_1003.wr W1004
  have fF_a1_name_1004 : Fld Z h1004 a1 "com/example/tidemark/tidemark/VmType" "name" "Ljava/lang/String;" (.ref a2) := fF_a1_name_1003.other W1004 (Or.inr (slot_ne (Or.inr (hw _ (List.mem_of_getElem? (i := 22) rfl))) (Or.inr (hw _ (List.mem_of_getElem? (i := 26) rfl))) (by decide) (t := (.object "java/lang/String")) (t' := .int) (by decide) (by decide)))
  have fF_a1_family_1004 : Fld Z h1004 a1 "com/example/tidemark/tidemark/VmType" "family" "Ljava/lang/String;" (.ref a3) := Fw1003.other W1004 (Or.inr (slot_ne (Or.inr (hw _ (List.mem_of_getElem? (i := 24) rfl))) (Or.inr (hw _ (List.mem_of_getElem? (i := 26) rfl))) (by decide) (t := (.object "java/lang/String")) (t' := .int) (by decide) (by decide)))
  have fF_a1_bandwidthMbps_1004 : Fld Z h1004 a1 "com/example/tidemark/tidemark/VmType" "bandwidthMbps" "D" (.double 0) := fF_a1_bandwidthMbps_1003.other W1004 (Or.inr (slot_ne (Or.inr (hw _ (List.mem_of_getElem? (i := 28) rfl))) (Or.inr (hw _ (List.mem_of_getElem? (i := 26) rfl))) (by decide) (t := .double) (t' := .int) (by decide) (by decide)))
  have fF_a1_pricePerHour_1004 : Fld Z h1004 a1 "com/example/tidemark/tidemark/VmType" "pricePerHour" "D" (.double 0) := fF_a1_pricePerHour_1003.other W1004 (Or.inr (slot_ne (Or.inr (hw _ (List.mem_of_getElem? (i := 30) rfl))) (Or.inr (hw _ (List.mem_of_getElem? (i := 26) rfl))) (by decide) (t := .double) (t' := .int) (by decide) (by decide)))
  have fF_a1_speedFactor_1004 : Fld Z h1004 a1 "com/example/tidemark/tidemark/VmType" "speedFactor" "D" (.double 0) := fF_a1_speedFactor_1003.other W1004 (Or.inr (slot_ne (Or.inr (hw _ (List.mem_of_getElem? (i := 32) rfl))) (Or.inr (hw _ (List.mem_of_getElem? (i := 26) rfl))) (by decide) (t := .double) (t' := .int) (by decide) (by decide)))
  have Fw1004 : Fld Z h1004 a1 "com/example/tidemark/tidemark/VmType" "vcpus" "I" (.int p1) := fF_a1_vcpus_1003.same W1004
  have K1004 : Keep h0 h1004 [a1] := K1003.wr W1004 (Or.inl (List.mem_of_getElem? (i := 0) rfl))
  have N1004 := Fr.snoc X1004 N1003 g_a1
  refine go (T' := T1004) (g' := (mkF m 19 #[.val (.ref a1), .val (.ref a2), .val (.ref a3), .val (.int p1), .val (.double d1), .second, .val (.double d2), .second, .val (.double d3), .second] [])) st1004 ?_
  refine go (T' := T1004) (g' := (mkF m 20 #[.val (.ref a1), .val (.ref a2), .val (.ref a3), .val (.int p1), .val (.double d1), .second, .val (.double d2), .second, .val (.double d3), .second] [(.ref a1)])) (fun t kt => XS.aloadN X1004.here hx rfl (hb hby d1_19) rfl rfl kt) ?_
  refine go (T' := T1004) (g' := (mkF m 22 #[.val (.ref a1), .val (.ref a2), .val (.ref a3), .val (.int p1), .val (.double d1), .second, .val (.double d2), .second, .val (.double d3), .second] [(.double d1), (.ref a1)])) (fun t kt => XS.dload X1004.here hx rfl (hb hby d1_20) rfl kt) ?_
  obtain ⟨T1005, h1005, X1005, e1005, W1005, st1005⟩ := putF X1004 hx hZ hown (host := "") (Or.inl (hw _ (List.mem_of_getElem? (i := 27) rfl))) Via.refl e1004 fF_a1_bandwidthMbps_1004 fE_a1_1004 (Or.inr ⟨(hw _ (List.mem_of_getElem? (i := 28) rfl)), rfl, hnm⟩) (hw _ (List.mem_of_getElem? (i := 4) rfl)) (ty := .double) (by decide) rfl rfl (g := (mkF m 22 #[.val (.ref a1), .val (.ref a2), .val (.ref a3), .val (.int p1), .val (.double d1), .second, .val (.double d2), .second, .val (.double d3), .second] [(.double d1), (.ref a1)])) rfl rfl (hb hby d1_22)
  have z1005 : n0 ≤ h1005.size := Nat.le_trans z1004 (Keep.of_wr W1005).1
  have fE_a1_1005 : Exa Z h1005 a1 "com/example/tidemark/tidemark/VmType" := fE_a1_1004.wr W1005
  have fF_a1_name_1005 : Fld Z h1005 a1 "com/example/tidemark/tidemark/VmType" "name" "Ljava/lang/String;" (.ref a2) := fF_a1_name_1004.other W1005 (Or.inr (slot_ne (Or.inr (hw _ (List.mem_of_getElem? (i := 22) rfl))) (Or.inr (hw _ (List.mem_of_getElem? (i := 28) rfl))) (by decide) (t := (.object "java/lang/String")) (t' := .double) (by decide) (by decide)))
  have fF_a1_family_1005 : Fld Z h1005 a1 "com/example/tidemark/tidemark/VmType" "family" "Ljava/lang/String;" (.ref a3) := fF_a1_family_1004.other W1005 (Or.inr (slot_ne (Or.inr (hw _ (List.mem_of_getElem? (i := 24) rfl))) (Or.inr (hw _ (List.mem_of_getElem? (i := 28) rfl))) (by decide) (t := (.object "java/lang/String")) (t' := .double) (by decide) (by decide)))
  have fF_a1_vcpus_1005 : Fld Z h1005 a1 "com/example/tidemark/tidemark/VmType" "vcpus" "I" (.int p1) := Fw1004.other W1005 (Or.inr (slot_ne (Or.inr (hw _ (List.mem_of_getElem? (i := 26) rfl))) (Or.inr (hw _ (List.mem_of_getElem? (i := 28) rfl))) (by decide) (t := .int) (t' := .double) (by decide) (by decide)))
  have fF_a1_pricePerHour_1005 : Fld Z h1005 a1 "com/example/tidemark/tidemark/VmType" "pricePerHour" "D" (.double 0) := fF_a1_pricePerHour_1004.other W1005 (Or.inr (slot_ne (Or.inr (hw _ (List.mem_of_getElem? (i := 30) rfl))) (Or.inr (hw _ (List.mem_of_getElem? (i := 28) rfl))) (by decide) (t := .double) (t' := .double) (by decide) (by decide)))
  have fF_a1_speedFactor_1005 : Fld Z h1005 a1 "com/example/tidemark/tidemark/VmType" "speedFactor" "D" (.double 0) := fF_a1_speedFactor_1004.other W1005 (Or.inr (slot_ne (Or.inr (hw _ (List.mem_of_getElem? (i := 32) rfl))) (Or.inr (hw _ (List.mem_of_getElem? (i := 28) rfl))) (by decide) (t := .double) (t' := .double) (by decide) (by decide)))
  have Fw1005 : Fld Z h1005 a1 "com/example/tidemark/tidemark/VmType" "bandwidthMbps" "D" (.double d1) := fF_a1_bandwidthMbps_1004.same W1005
  have K1005 : Keep h0 h1005 [a1] := K1004.wr W1005 (Or.inl (List.mem_of_getElem? (i := 0) rfl))
  have N1005 := Fr.snoc X1005 N1004 g_a1
  refine go (T' := T1005) (g' := (mkF m 25 #[.val (.ref a1), .val (.ref a2), .val (.ref a3), .val (.int p1), .val (.double d1), .second, .val (.double d2), .second, .val (.double d3), .second] [])) st1005 ?_
  refine go (T' := T1005) (g' := (mkF m 26 #[.val (.ref a1), .val (.ref a2), .val (.ref a3), .val (.int p1), .val (.double d1), .second, .val (.double d2), .second, .val (.double d3), .second] [(.ref a1)])) (fun t kt => XS.aloadN X1005.here hx rfl (hb hby d1_25) rfl rfl kt) ?_
  refine go (T' := T1005) (g' := (mkF m 28 #[.val (.ref a1), .val (.ref a2), .val (.ref a3), .val (.int p1), .val (.double d1), .second, .val (.double d2), .second, .val (.double d3), .second] [(.double d2), (.ref a1)])) (fun t kt => XS.dload X1005.here hx rfl (hb hby d1_26) rfl kt) ?_
  obtain ⟨T1006, h1006, X1006, e1006, W1006, st1006⟩ := putF X1005 hx hZ hown (host := "") (Or.inl (hw _ (List.mem_of_getElem? (i := 29) rfl))) Via.refl e1005 fF_a1_pricePerHour_1005 fE_a1_1005 (Or.inr ⟨(hw _ (List.mem_of_getElem? (i := 30) rfl)), rfl, hnm⟩) (hw _ (List.mem_of_getElem? (i := 4) rfl)) (ty := .double) (by decide) rfl rfl (g := (mkF m 28 #[.val (.ref a1), .val (.ref a2), .val (.ref a3), .val (.int p1), .val (.double d1), .second, .val (.double d2), .second, .val (.double d3), .second] [(.double d2), (.ref a1)])) rfl rfl (hb hby d1_28)
  have z1006 : n0 ≤ h1006.size := Nat.le_trans z1005 (Keep.of_wr W1006).1
  have fE_a1_1006 : Exa Z h1006 a1 "com/example/tidemark/tidemark/VmType" := fE_a1_1005.wr W1006
  have fF_a1_name_1006 : Fld Z h1006 a1 "com/example/tidemark/tidemark/VmType" "name" "Ljava/lang/String;" (.ref a2) := fF_a1_name_1005.other W1006 (Or.inr (slot_ne (Or.inr (hw _ (List.mem_of_getElem? (i := 22) rfl))) (Or.inr (hw _ (List.mem_of_getElem? (i := 30) rfl))) (by decide) (t := (.object "java/lang/String")) (t' := .double) (by decide) (by decide)))
  have fF_a1_family_1006 : Fld Z h1006 a1 "com/example/tidemark/tidemark/VmType" "family" "Ljava/lang/String;" (.ref a3) := fF_a1_family_1005.other W1006 (Or.inr (slot_ne (Or.inr (hw _ (List.mem_of_getElem? (i := 24) rfl))) (Or.inr (hw _ (List.mem_of_getElem? (i := 30) rfl))) (by decide) (t := (.object "java/lang/String")) (t' := .double) (by decide) (by decide)))
  have fF_a1_vcpus_1006 : Fld Z h1006 a1 "com/example/tidemark/tidemark/VmType" "vcpus" "I" (.int p1) := fF_a1_vcpus_1005.other W1006 (Or.inr (slot_ne (Or.inr (hw _ (List.mem_of_getElem? (i := 26) rfl))) (Or.inr (hw _ (List.mem_of_getElem? (i := 30) rfl))) (by decide) (t := .int) (t' := .double) (by decide) (by decide)))
  have fF_a1_bandwidthMbps_1006 : Fld Z h1006 a1 "com/example/tidemark/tidemark/VmType" "bandwidthMbps" "D" (.double d1) := Fw1005.other W1006 (Or.inr (slot_ne (Or.inr (hw _ (List.mem_of_getElem? (i := 28) rfl))) (Or.inr (hw _ (List.mem_of_getElem? (i := 30) rfl))) (by decide) (t := .double) (t' := .double) (by decide) (by decide)))
  have fF_a1_speedFactor_1006 : Fld Z h1006 a1 "com/example/tidemark/tidemark/VmType" "speedFactor" "D" (.double 0) := fF_a1_speedFactor_1005.other W1006 (Or.inr (slot_ne (Or.inr (hw _ (List.mem_of_getElem? (i := 32) rfl))) (Or.inr (hw _ (List.mem_of_getElem? (i := 30) rfl))) (by decide) (t := .double) (t' := .double) (by decide) (by decide)))
  have Fw1006 : Fld Z h1006 a1 "com/example/tidemark/tidemark/VmType" "pricePerHour" "D" (.double d2) := fF_a1_pricePerHour_1005.same W1006
  have K1006 : Keep h0 h1006 [a1] := K1005.wr W1006 (Or.inl (List.mem_of_getElem? (i := 0) rfl))
  have N1006 := Fr.snoc X1006 N1005 g_a1
  refine go (T' := T1006) (g' := (mkF m 31 #[.val (.ref a1), .val (.ref a2), .val (.ref a3), .val (.int p1), .val (.double d1), .second, .val (.double d2), .second, .val (.double d3), .second] [])) st1006 ?_
  refine go (T' := T1006) (g' := (mkF m 32 #[.val (.ref a1), .val (.ref a2), .val (.ref a3), .val (.int p1), .val (.double d1), .second, .val (.double d2), .second, .val (.double d3), .second] [(.ref a1)])) (fun t kt => XS.aloadN X1006.here hx rfl (hb hby d1_31) rfl rfl kt) ?_
  refine go (T' := T1006) (g' := (mkF m 34 #[.val (.ref a1), .val (.ref a2), .val (.ref a3), .val (.int p1), .val (.double d1), .second, .val (.double d2), .second, .val (.double d3), .second] [(.double d3), (.ref a1)])) (fun t kt => XS.dload X1006.here hx rfl (hb hby d1_32) rfl kt) ?_
  obtain ⟨T1007, h1007, X1007, e1007, W1007, st1007⟩ := putF X1006 hx hZ hown (host := "") (Or.inl (hw _ (List.mem_of_getElem? (i := 31) rfl))) Via.refl e1006 fF_a1_speedFactor_1006 fE_a1_1006 (Or.inr ⟨(hw _ (List.mem_of_getElem? (i := 32) rfl)), rfl, hnm⟩) (hw _ (List.mem_of_getElem? (i := 4) rfl)) (ty := .double) (by decide) rfl rfl (g := (mkF m 34 #[.val (.ref a1), .val (.ref a2), .val (.ref a3), .val (.int p1), .val (.double d1), .second, .val (.double d2), .second, .val (.double d3), .second] [(.double d3), (.ref a1)])) rfl rfl (hb hby d1_34)
  have z1007 : n0 ≤ h1007.size := Nat.le_trans z1006 (Keep.of_wr W1007).1
  have fE_a1_1007 : Exa Z h1007 a1 "com/example/tidemark/tidemark/VmType" := fE_a1_1006.wr W1007
  have fF_a1_name_1007 : Fld Z h1007 a1 "com/example/tidemark/tidemark/VmType" "name" "Ljava/lang/String;" (.ref a2) := fF_a1_name_1006.other W1007 (Or.inr (slot_ne (Or.inr (hw _ (List.mem_of_getElem? (i := 22) rfl))) (Or.inr (hw _ (List.mem_of_getElem? (i := 32) rfl))) (by decide) (t := (.object "java/lang/String")) (t' := .double) (by decide) (by decide)))
  have fF_a1_family_1007 : Fld Z h1007 a1 "com/example/tidemark/tidemark/VmType" "family" "Ljava/lang/String;" (.ref a3) := fF_a1_family_1006.other W1007 (Or.inr (slot_ne (Or.inr (hw _ (List.mem_of_getElem? (i := 24) rfl))) (Or.inr (hw _ (List.mem_of_getElem? (i := 32) rfl))) (by decide) (t := (.object "java/lang/String")) (t' := .double) (by decide) (by decide)))
  have fF_a1_vcpus_1007 : Fld Z h1007 a1 "com/example/tidemark/tidemark/VmType" "vcpus" "I" (.int p1) := fF_a1_vcpus_1006.other W1007 (Or.inr (slot_ne (Or.inr (hw _ (List.mem_of_getElem? (i := 26) rfl))) (Or.inr (hw _ (List.mem_of_getElem? (i := 32) rfl))) (by decide) (t := .int) (t' := .double) (by decide) (by decide)))
  have fF_a1_bandwidthMbps_1007 : Fld Z h1007 a1 "com/example/tidemark/tidemark/VmType" "bandwidthMbps" "D" (.double d1) := fF_a1_bandwidthMbps_1006.other W1007 (Or.inr (slot_ne (Or.inr (hw _ (List.mem_of_getElem? (i := 28) rfl))) (Or.inr (hw _ (List.mem_of_getElem? (i := 32) rfl))) (by decide) (t := .double) (t' := .double) (by decide) (by decide)))
  have fF_a1_pricePerHour_1007 : Fld Z h1007 a1 "com/example/tidemark/tidemark/VmType" "pricePerHour" "D" (.double d2) := Fw1006.other W1007 (Or.inr (slot_ne (Or.inr (hw _ (List.mem_of_getElem? (i := 30) rfl))) (Or.inr (hw _ (List.mem_of_getElem? (i := 32) rfl))) (by decide) (t := .double) (t' := .double) (by decide) (by decide)))
  have Fw1007 : Fld Z h1007 a1 "com/example/tidemark/tidemark/VmType" "speedFactor" "D" (.double d3) := fF_a1_speedFactor_1006.same W1007
  have K1007 : Keep h0 h1007 [a1] := K1006.wr W1007 (Or.inl (List.mem_of_getElem? (i := 0) rfl))
  have N1007 := Fr.snoc X1007 N1006 g_a1
  refine go (T' := T1007) (g' := (mkF m 37 #[.val (.ref a1), .val (.ref a2), .val (.ref a3), .val (.int p1), .val (.double d1), .second, .val (.double d2), .second, .val (.double d3), .second] [])) st1007 ?_
  refine goRetV X1007 hx hlk Bd.returns (hb hby d1_37) ?_ (by decide) (by decide)
  rw [e1007]
  exact ⟨rfl, N1007, K1007, fF_a1_bandwidthMbps_1007⟩
theorem d5_0 : decode prog_12_method_10_code 0 = .ok (.lload_n 0, 1) := by decide +kernel
theorem d5_1 : decode prog_12_method_10_code 1 = .ok (.l2d, 1) := by decide +kernel
theorem d5_2 : decode prog_12_method_10_code 2 = .ok (.ldc2_w 42, 3) := by decide +kernel
theorem d5_5 : decode prog_12_method_10_code 5 = .ok (.dmul, 1) := by decide +kernel
theorem d5_6 : decode prog_12_method_10_code 6 = .ok (.dload_n 2, 1) := by decide +kernel
theorem d5_7 : decode prog_12_method_10_code 7 = .ok (.ldc2_w 44, 3) := by decide +kernel
theorem d5_10 : decode prog_12_method_10_code 10 = .ok (.dmul, 1) := by decide +kernel
theorem d5_11 : decode prog_12_method_10_code 11 = .ok (.ddiv, 1) := by decide +kernel
theorem d5_12 : decode prog_12_method_10_code 12 = .ok (.dreturn, 1) := by decide +kernel
theorem ef_5 (m : MethodId) (q1 : Int64) (d1 : UInt64) : entryFrame m #[(.long q1), (.double d1)] 4 = mkF m 0 #[.val (.long q1), .second, .val (.double d1), .second] [] := by first | (simp [entryFrame, mkF, argsToLocals, Value.category]; done) | rfl
def Q5 (Z : State) (q1 : Int64) (d1 : UInt64) (n : Int32) (h0 : Heap) (n0 : Nat) (v : Option Value) (h : Heap) (L : List Loc) : Prop := v = some (.double (own_f q1 d1)) ∧ Fr n0 L ∧ h = h0
set_option maxRecDepth 65536 in
set_option maxHeartbeats 40000000 in
theorem rm5 (l : Launch) (Z : State) (a0 : Array Value) (hw : ∀ d ∈ tables_1, d.before a0 Z = true) (ws : List Jvm.Cond) (q1 : Int64) (d1 : UInt64) (n : Int32) (h0 : Heap) (n0 : Nat) (Z0 : n0 ≤ h0.size) (hn : n ≠ 0) (hd : d1 = own_x n) :
    MetFree l (⟨"com/example/tidemark/tidemark/VmType", "secondsToSend", "(JD)D"⟩ : MethodName) (head1 (Jvm.Cond.code (⟨"com/example/tidemark/tidemark/VmType", "secondsToSend", "(JD)D"⟩ : MethodName) prog_12_method_10_code 4 (some .double) :: ws) ({ frames := 0, cells := 0, slots := 0, locals := 0 } : Room)) (fun a U => a = #[(.long q1), (.double d1)] ∧ Z.Warmed39 U.vm ∧ U.heap = h0) (fun _ _ _ _ _ => True) (fun _ U o U' => ∃ v L, o = .returned v ∧ Q5 Z q1 d1 n h0 n0 v U'.heap L ∧ FrameEnd U o U' L ({ frames := 0, cells := 0, slots := 0, locals := 0 } : Room).cells ({ frames := 0, cells := 0, slots := 0, locals := 0 } : Room).slots) := by
  refine MetFree.of_bodySF (plainFor_of_name pn_1) hisR ?_
  intro p e s m args below meth c s₁ Bd hml0 hP hK
  obtain ⟨rfl, hZ, hh⟩ := hP
  have hx := Bd.exec
  have hby := Bd.bytes
  have hlk := Bd.notSynchronized
  have hml : c.maxLocals = 4 := hml0
  have hown : s.vm.findClass "com/example/tidemark/tidemark/VmType" = some m.cls := findClass_of_methodNamed Bd.named
  have hnm := (name_of_methodNamed Bd.named Bd.method).1
  have X0 : Stand p l e ({ frames := 0, cells := 0, slots := 0, locals := 0 } : Room) s m #[(.long q1), (.double d1)] below meth c s₁ [] 0 0 := Stand.of_body Bd
  have e0 : s₁.heap = h0 := by rw [← hh, Bd.state]; rfl
  have N0 := Fr.nil n0
  show Goes p e below s false 0 0 (Q5 Z q1 d1 n h0 n0) s₁ (entryFrame m #[(.long q1), (.double d1)] 4)
  refine goEq (ef_5 m q1 d1) ?_
  refine goEq (g' := (mkF m 0 #[.val (.long q1), .second, .val (.double (own_x n)), .second] [])) (by rw [hd]) ?_
  refine go (T' := s₁) (g' := (mkF m 1 #[.val (.long q1), .second, .val (.double (own_x n)), .second] [(.long q1)])) (fun t kt => XS.lloadN X0.here hx rfl (hb hby d5_0) rfl kt) ?_
  refine go (T' := s₁) (g' := (mkF m 2 #[.val (.long q1), .second, .val (.double (own_x n)), .second] [(.double (FP.l2d q1))])) (fun t kt => XS.l2dS X0.here hx rfl (hb hby d5_1) rfl rfl kt) ?_
  refine go (T' := s₁) (g' := (mkF m 5 #[.val (.long q1), .second, .val (.double (own_x n)), .second] [(.double own_q8), (.double (FP.l2d q1))])) (fun t kt => X0.ldc2DoubleC hx hown (mvT hZ (hw _ (List.mem_of_getElem? (i := 48) rfl))) (g := (mkF m 2 #[.val (.long q1), .second, .val (.double (own_x n)), .second] [(.double (FP.l2d q1))])) rfl (hb hby d5_2) _ kt) ?_
  refine go (T' := s₁) (g' := (mkF m 6 #[.val (.long q1), .second, .val (.double (own_x n)), .second] [(.double (FP.dmul (FP.l2d q1) own_q8))])) (fun t kt => XS.dmulS X0.here hx rfl (hb hby d5_5) rfl (own_n1 q1) rfl kt) ?_
  refine go (T' := s₁) (g' := (mkF m 7 #[.val (.long q1), .second, .val (.double (own_x n)), .second] [(.double (own_x n)), (.double (FP.dmul (FP.l2d q1) own_q8))])) (fun t kt => XS.dloadN X0.here hx rfl (hb hby d5_6) rfl kt) ?_
  refine go (T' := s₁) (g' := (mkF m 10 #[.val (.long q1), .second, .val (.double (own_x n)), .second] [(.double own_q6), (.double (own_x n)), (.double (FP.dmul (FP.l2d q1) own_q8))])) (fun t kt => X0.ldc2DoubleC hx hown (mvT hZ (hw _ (List.mem_of_getElem? (i := 49) rfl))) (g := (mkF m 7 #[.val (.long q1), .second, .val (.double (own_x n)), .second] [(.double (own_x n)), (.double (FP.dmul (FP.l2d q1) own_q8))])) rfl (hb hby d5_7) _ kt) ?_
  refine go (T' := s₁) (g' := (mkF m 11 #[.val (.long q1), .second, .val (.double (own_x n)), .second] [(.double (FP.dmul (own_x n) own_q6)), (.double (FP.dmul (FP.l2d q1) own_q8))])) (fun t kt => XS.dmulS X0.here hx rfl (hb hby d5_10) rfl (own_n2 n) rfl kt) ?_
  refine go (T' := s₁) (g' := (mkF m 12 #[.val (.long q1), .second, .val (.double (own_x n)), .second] [(.double (FP.ddiv (FP.dmul (FP.l2d q1) own_q8) (FP.dmul (own_x n) own_q6)))])) (fun t kt => XS.ddivS X0.here hx rfl (hb hby d5_11) rfl (own_n3 q1 hn) rfl kt) ?_
  refine goRetD X0 hx hlk Bd.returns (hb hby d5_12) ?_ (by decide) (by decide)
  rw [e0]
  exact ⟨by rw [hd]; rfl, N0, rfl⟩
theorem d3_0 : decode prog_12_method_9_code 0 = .ok (.lload_n 1, 1) := by decide +kernel
theorem d3_1 : decode prog_12_method_9_code 1 = .ok (.aload_n 0, 1) := by decide +kernel
theorem d3_2 : decode prog_12_method_9_code 2 = .ok (.getfield 20, 3) := by decide +kernel
theorem d3_5 : decode prog_12_method_9_code 5 = .ok (.aload_n 3, 1) := by decide +kernel
theorem d3_6 : decode prog_12_method_9_code 6 = .ok (.getfield 20, 3) := by decide +kernel
theorem d3_9 : decode prog_12_method_9_code 9 = .ok (.invokestatic 32, 3) := by decide +kernel
theorem d3_12 : decode prog_12_method_9_code 12 = .ok (.invokestatic 38, 3) := by decide +kernel
theorem d3_15 : decode prog_12_method_9_code 15 = .ok (.dreturn, 1) := by decide +kernel
theorem pd_0 : parseMethodDescriptor "(DD)D" = some ⟨[.double, .double], some .double⟩ := by decide +kernel
theorem pd_1 : parseMethodDescriptor "(JD)D" = some ⟨[.long, .double], some .double⟩ := by decide +kernel
theorem ef_3 (m : MethodId) (a1 : Addr) (q1 : Int64) (a2 : Addr) : entryFrame m #[(.ref a1), (.long q1), (.ref a2)] 4 = mkF m 0 #[.val (.ref a1), .val (.long q1), .second, .val (.ref a2)] [] := by first | (simp [entryFrame, mkF, argsToLocals, Value.category]; done) | rfl
def Q3 (Z : State) (a1 : Addr) (q1 : Int64) (a2 : Addr) (n1 : Int32) (n2 : Int32) (h0 : Heap) (n0 : Nat) (v : Option Value) (h : Heap) (L : List Loc) : Prop := v = some (.double (own_f q1 (own_min (own_x n1) (own_x n2)))) ∧ Fr n0 L ∧ h = h0
set_option maxRecDepth 65536 in
set_option maxHeartbeats 40000000 in
theorem rm3 (l : Launch) (Z : State) (a0 : Array Value) (hw : ∀ d ∈ tables_1, d.before a0 Z = true) (ws : List Jvm.Cond) (a1 : Addr) (q1 : Int64) (a2 : Addr) (n1 : Int32) (n2 : Int32) (h0 : Heap) (n0 : Nat) (Z0 : n0 ≤ h0.size) (hn1 : n1 ≠ 0) (hn2 : n2 ≠ 0) (F1 : Fld Z h0 a1 "com/example/tidemark/tidemark/VmType" "bandwidthMbps" "D" (.double (own_x n1))) (F2 : Fld Z h0 a2 "com/example/tidemark/tidemark/VmType" "bandwidthMbps" "D" (.double (own_x n2))) :
    MetFree l (⟨"com/example/tidemark/tidemark/VmType", "secondsToSend", "(JLcom/example/tidemark/tidemark/VmType;)D"⟩ : MethodName) (head1 (Jvm.Cond.code (⟨"com/example/tidemark/tidemark/VmType", "secondsToSend", "(JLcom/example/tidemark/tidemark/VmType;)D"⟩ : MethodName) prog_12_method_9_code 4 (some .double) :: ws) ({ frames := 1, cells := 0, slots := 0, locals := 17 } : Room)) (fun a U => a = #[(.ref a1), (.long q1), (.ref a2)] ∧ Z.Warmed39 U.vm ∧ U.heap = h0) (fun _ _ _ _ _ => True) (fun _ U o U' => ∃ v L, o = .returned v ∧ Q3 Z a1 q1 a2 n1 n2 h0 n0 v U'.heap L ∧ FrameEnd U o U' L ({ frames := 1, cells := 0, slots := 0, locals := 17 } : Room).cells ({ frames := 1, cells := 0, slots := 0, locals := 17 } : Room).slots) := by
  refine MetFree.of_bodySF (plainFor_of_name pn_1) hisR ?_
  intro p e s m args below meth c s₁ Bd hml0 hP hK
  obtain ⟨rfl, hZ, hh⟩ := hP
  have hx := Bd.exec
  have hby := Bd.bytes
  have hlk := Bd.notSynchronized
  have hml : c.maxLocals = 4 := hml0
  have hown : s.vm.findClass "com/example/tidemark/tidemark/VmType" = some m.cls := findClass_of_methodNamed Bd.named
  have hnm := (name_of_methodNamed Bd.named Bd.method).1
  have X0 : Stand p l e ({ frames := 1, cells := 0, slots := 0, locals := 17 } : Room) s m #[(.ref a1), (.long q1), (.ref a2)] below meth c s₁ [] 0 0 := Stand.of_body Bd
  have e0 : s₁.heap = h0 := by rw [← hh, Bd.state]; rfl
  have N0 := Fr.nil n0
  show Goes p e below s false 0 0 (Q3 Z a1 q1 a2 n1 n2 h0 n0) s₁ (entryFrame m #[(.ref a1), (.long q1), (.ref a2)] 4)
  refine goEq (ef_3 m a1 q1 a2) ?_
  refine go (T' := s₁) (g' := (mkF m 1 #[.val (.ref a1), .val (.long q1), .second, .val (.ref a2)] [(.long q1)])) (fun t kt => XS.lloadN X0.here hx rfl (hb hby d3_0) rfl kt) ?_
  refine go (T' := s₁) (g' := (mkF m 2 #[.val (.ref a1), .val (.long q1), .second, .val (.ref a2)] [(.ref a1), (.long q1)])) (fun t kt => XS.aloadN X0.here hx rfl (hb hby d3_1) rfl rfl kt) ?_
  obtain ⟨T1008, X1008, e1008, st1008⟩ := getF X0 hx hZ hown (host := "") (Or.inl (hw _ (List.mem_of_getElem? (i := 27) rfl))) Via.refl e0 F1 (g := (mkF m 2 #[.val (.ref a1), .val (.long q1), .second, .val (.ref a2)] [(.ref a1), (.long q1)])) rfl rfl (hb hby d3_2)
  refine go (T' := T1008) (g' := (mkF m 5 #[.val (.ref a1), .val (.long q1), .second, .val (.ref a2)] [(.double (own_x n1)), (.long q1)])) st1008 ?_
  refine go (T' := T1008) (g' := (mkF m 6 #[.val (.ref a1), .val (.long q1), .second, .val (.ref a2)] [(.ref a2), (.double (own_x n1)), (.long q1)])) (fun t kt => XS.aloadN X1008.here hx rfl (hb hby d3_5) rfl rfl kt) ?_
  obtain ⟨T1009, X1009, e1009, st1009⟩ := getF X1008 hx hZ hown (host := "") (Or.inl (hw _ (List.mem_of_getElem? (i := 27) rfl))) Via.refl e1008 F2 (g := (mkF m 6 #[.val (.ref a1), .val (.long q1), .second, .val (.ref a2)] [(.ref a2), (.double (own_x n1)), (.long q1)])) rfl rfl (hb hby d3_6)
  refine go (T' := T1009) (g' := (mkF m 9 #[.val (.ref a1), .val (.long q1), .second, .val (.ref a2)] [(.double (own_x n2)), (.double (own_x n1)), (.long q1)])) st1009 ?_
  obtain ⟨v1010, vq1010, B1010, -, X1010, ⟨hB1010, hv1010⟩, st1010⟩ := Jvm.LawKit.callS X1009 hx (y := (⟨"java/lang/Math", "min", "(DD)D"⟩ : MethodName)) hown (mvT hZ (hw _ (List.mem_of_getElem? (i := 41) rfl))) (mvT hZ (hw _ (List.mem_of_getElem? (i := 42) rfl))) (mvT hZ (hw _ (List.mem_of_getElem? (i := 43) rfl))) (mvT hZ (hw _ (List.mem_of_getElem? (i := 44) rfl))) (by decide) (Jvm.Free.NT.Min64.pays (W := 2) (mvT hZ (hw _ (List.mem_of_getElem? (i := 44) rfl))) (mvT hZ (hw _ (List.mem_of_getElem? (i := 42) rfl))) (by decide) (by decide)) (g := (mkF m 9 #[.val (.ref a1), .val (.long q1), .second, .val (.ref a2)] [(.double (own_x n2)), (.double (own_x n1)), (.long q1)])) rfl (by rw [hml]; rfl) (argsL := [(.double (own_x n1)), (.double (own_x n2))]) (rest := [(.long q1)]) (lenOf pd_0 rfl) rfl (by show 2 * 0 + _ ≤ _; exact Nat.le_of_eq rfl) (hb hby d3_9) (fun _ _ => ⟨((own_x n1), (own_x n2)), rfl, Jvm.Free.Fl.noNaN64_no.mp own_x_no, Jvm.Free.Fl.noNaN64_no.mp own_x_no⟩)
  subst hB1010
  have hv1010 := hv1010 ((own_x n1), (own_x n2)) ⟨rfl, Jvm.Free.Fl.noNaN64_no.mp own_x_no, Jvm.Free.Fl.noNaN64_no.mp own_x_no⟩
  rw [own_pick own_x_no own_x_no (own_x_nz hn1) (own_x_nz hn2)] at hv1010
  subst hv1010
  dsimp only [Pt.U, Pt.locs, Pt.cells, Pt.slots] at X1010 st1010
  obtain ⟨T1010, hT1010⟩ : ∃ z, z = T1009.setVm vq1010 := ⟨_, rfl⟩
  rw [← hT1010] at X1010 st1010
  have e1010 : T1010.heap = h0 := by rw [hT1010]; exact e1009
  refine go (T' := T1010) (g' := (mkF m 12 #[.val (.ref a1), .val (.long q1), .second, .val (.ref a2)] [(.double (own_min (own_x n1) (own_x n2))), (.long q1)])) st1010 ?_
  obtain ⟨n3, hn3, e3⟩ := own_pickx hn1 hn2
  obtain ⟨_, _, ⟨T1011, L1011, k1011, n1011⟩, -, X1011, ⟨Lc1011, hQ1011, l1011, y1011, z1011⟩, st1011⟩ := Jvm.LawKit.callS X1010 hx (y := (⟨"com/example/tidemark/tidemark/VmType", "secondsToSend", "(JD)D"⟩ : MethodName)) hown (mvT hZ (hw _ (List.mem_of_getElem? (i := 45) rfl))) (mvT hZ (hw _ (List.mem_of_getElem? (i := 46) rfl))) (mvT hZ (hw _ (List.mem_of_getElem? (i := 5) rfl))) (mvT hZ (hw _ (List.mem_of_getElem? (i := 47) rfl))) (by decide) (backOf (W := 0) (rm5 l Z a0 hw [] q1 (own_min (own_x n1) (own_x n2)) n3 h0 n0 Z0 hn3 e3) hZ (hw _ (List.mem_of_getElem? (i := 47) rfl)) (hw _ (List.mem_of_getElem? (i := 5) rfl)) (by decide) (by decide)) (g := (mkF m 12 #[.val (.ref a1), .val (.long q1), .second, .val (.ref a2)] [(.double (own_min (own_x n1) (own_x n2))), (.long q1)])) rfl (by rw [hml]; rfl) (argsL := [(.long q1), (.double (own_min (own_x n1) (own_x n2)))]) (rest := []) (lenOf pd_1 rfl) rfl (by show 2 * 0 + _ ≤ _; exact Nat.le_of_eq rfl) (hb hby d3_12) (fun _ _ => ⟨rfl, e1010, (by decide : 0 + 0 ≤ _), (by decide : 0 + 0 ≤ _)⟩)
  dsimp only [Pt.U, Pt.locs, Pt.cells, Pt.slots] at X1011 l1011 y1011 z1011 st1011 hQ1011
  subst l1011 y1011 z1011
  obtain ⟨rfl, N1011q, e1011⟩ := hQ1011
  have N1011 := Fr.app N0 N1011q
  refine go (T' := T1011) (g' := (mkF m 15 #[.val (.ref a1), .val (.long q1), .second, .val (.ref a2)] [(.double (own_f q1 (own_min (own_x n1) (own_x n2))))])) st1011 ?_
  refine goRetD X1011 hx hlk Bd.returns (hb hby d3_15) ?_ (by decide) (by decide)
  rw [e1011]
  exact ⟨rfl, N1011, rfl⟩
theorem pd_2 : parseMethodDescriptor "(Ljava/lang/String;Ljava/lang/String;IDDD)V" = some ⟨[(.object "java/lang/String"), (.object "java/lang/String"), .int, .double, .double, .double], none⟩ := by decide +kernel
theorem pd_3 : parseMethodDescriptor "(JLcom/example/tidemark/tidemark/VmType;)D" = some ⟨[.long, (.object "com/example/tidemark/tidemark/VmType")], some .double⟩ := by decide +kernel
theorem pn_0 : plainName "com/example/tidemark/tidemark/VmTypeSecondsToSendPinLaw" = true := by first | (simp [plainName, overriddenIn]; done) | decide +kernel
theorem ef_0 (m : MethodId) (q1 : Int64) (p1 : Int32) (p2 : Int32) (p3 : Int32) : entryFrame m #[(.long q1), (.int p1), (.int p2), (.int p3)] maxLocals = mkF m 0 #[.val (.long q1), .second, .val (.int p1), .val (.int p2), .val (.int p3), .unset, .unset, .unset, .unset, .unset, .unset, .unset, .unset, .unset, .unset, .unset, .unset, .unset, .unset, .unset, .unset] [] := by first | (simp [entryFrame, mkF, argsToLocals, Value.category, maxLocals]; done) | rfl
def Q0 (Z : State) (q1 : Int64) (p1 : Int32) (p2 : Int32) (p3 : Int32) (h0 : Heap) (n0 : Nat) (v : Option Value) (h : Heap) (L : List Loc) : Prop := v = some (.int 1) ∧ Fr n0 L
set_option maxRecDepth 65536 in
set_option maxHeartbeats 40000000 in
theorem rm0 (l : Launch) (Z : State) (a0 : Array Value) (hw : ∀ d ∈ tables_1, d.before a0 Z = true) (ws : List Jvm.Cond) (q1 : Int64) (p1 : Int32) (p2 : Int32) (p3 : Int32) (h0 : Heap) (n0 : Nat) (Z0 : n0 ≤ h0.size)  :
    MetFree l x (head1 (Jvm.Cond.code x code maxLocals ret :: ws) room_1) (fun a U => a = #[(.long q1), (.int p1), (.int p2), (.int p3)] ∧ Z.Warmed39 U.vm ∧ U.heap = h0) (fun _ _ _ _ _ => True) (fun _ U o U' => ∃ v L, o = .returned v ∧ Q0 Z q1 p1 p2 p3 h0 n0 v U'.heap L ∧ ReturnedEndW U o U' L 10 44) := by
  refine MetFree.of_bodySF (plainFor_of_name pn_0) hisR ?_
  intro p e s m args below meth c s₁ Bd hml0 hP hK
  obtain ⟨rfl, hZ, hh⟩ := hP
  have hx := Bd.exec
  have hby := Bd.bytes
  have hlk := Bd.notSynchronized
  have hml : c.maxLocals = 21 := hml0
  have hown : s.vm.findClass "com/example/tidemark/tidemark/VmTypeSecondsToSendPinLaw" = some m.cls := findClass_of_methodNamed Bd.named
  have hnm := (name_of_methodNamed Bd.named Bd.method).1
  have X0 : Stand p l e room_1 (s.setVm s.vm) m #[(.long q1), (.int p1), (.int p2), (.int p3)] below meth c s₁ [] 0 0 := Stand.of_body Bd
  have hS0 : s.Since s.vm s.heap.size := (State.WarmedH.refl s).since _
  have hk0 : s.heap.size ≤ h0.size := Nat.le_of_eq (by rw [hh])
  have e0 : s₁.heap = h0 := by rw [← hh, Bd.state]; rfl
  have N0 := Fr.nil n0
  show Goes p e below s true 10 44 (Q0 Z q1 p1 p2 p3 h0 n0) s₁ (entryFrame m #[(.long q1), (.int p1), (.int p2), (.int p3)] maxLocals)
  refine goEq (ef_0 m q1 p1 p2 p3) ?_
  refine go (T' := s₁) (g' := (mkF m 1 #[.val (.long q1), .second, .val (.int p1), .val (.int p2), .val (.int p3), .unset, .unset, .unset, .unset, .unset, .unset, .unset, .unset, .unset, .unset, .unset, .unset, .unset, .unset, .unset, .unset] [(.long q1)])) (fun t kt => XS.lloadN X0.here hx rfl (hb hby at_0) rfl kt) ?_
  refine go (T' := s₁) (g' := (mkF m 4 #[.val (.long q1), .second, .val (.int p1), .val (.int p2), .val (.int p3), .unset, .unset, .unset, .unset, .unset, .unset, .unset, .unset, .unset, .unset, .unset, .unset, .unset, .unset, .unset, .unset] [(.long (9223372036854775807 : Int64)), (.long q1)])) (fun t kt => X0.ldc2Long hx hown (mvT hZ (hw _ (List.mem_of_getElem? (i := 0) rfl))) (g := (mkF m 1 #[.val (.long q1), .second, .val (.int p1), .val (.int p2), .val (.int p3), .unset, .unset, .unset, .unset, .unset, .unset, .unset, .unset, .unset, .unset, .unset, .unset, .unset, .unset, .unset, .unset] [(.long q1)])) rfl (hb hby at_1) _ kt) ?_
  refine go (T' := s₁) (g' := (mkF m 5 #[.val (.long q1), .second, .val (.int p1), .val (.int p2), .val (.int p3), .unset, .unset, .unset, .unset, .unset, .unset, .unset, .unset, .unset, .unset, .unset, .unset, .unset, .unset, .unset, .unset] [(.long (q1 &&& (9223372036854775807 : Int64)))])) (fun t kt => XS.land X0.here hx rfl (hb hby at_4) rfl kt) ?_
  obtain ⟨k, e_k⟩ : ∃ z, z = (q1 &&& (9223372036854775807 : Int64)) := ⟨_, rfl⟩
  refine goEq (g' := (mkF m 5 #[.val (.long q1), .second, .val (.int p1), .val (.int p2), .val (.int p3), .unset, .unset, .unset, .unset, .unset, .unset, .unset, .unset, .unset, .unset, .unset, .unset, .unset, .unset, .unset, .unset] [(.long k)])) (by rw [e_k]) ?_
  refine go (T' := s₁) (g' := (mkF m 7 #[.val (.long q1), .second, .val (.int p1), .val (.int p2), .val (.int p3), .val (.long k), .second, .unset, .unset, .unset, .unset, .unset, .unset, .unset, .unset, .unset, .unset, .unset, .unset, .unset, .unset] [])) (fun t kt => XS.lstore X0.here hx rfl (hb hby at_5) rfl (l' := #[.val (.long q1), .second, .val (.int p1), .val (.int p2), .val (.int p3), .val (.long k), .second, .unset, .unset, .unset, .unset, .unset, .unset, .unset, .unset, .unset, .unset, .unset, .unset, .unset, .unset]) rfl kt) ?_
  refine go (T' := s₁) (g' := (mkF m 8 #[.val (.long q1), .second, .val (.int p1), .val (.int p2), .val (.int p3), .val (.long k), .second, .unset, .unset, .unset, .unset, .unset, .unset, .unset, .unset, .unset, .unset, .unset, .unset, .unset, .unset] [(.int p1)])) (fun t kt => XS.iloadN X0.here hx rfl (hb hby at_7) rfl kt) ?_
  refine go (T' := s₁) (g' := (mkF m 10 #[.val (.long q1), .second, .val (.int p1), .val (.int p2), .val (.int p3), .val (.long k), .second, .unset, .unset, .unset, .unset, .unset, .unset, .unset, .unset, .unset, .unset, .unset, .unset, .unset, .unset] [(.int (65535 : Int32)), (.int p1)])) (fun t kt => X0.ldcInt hx hown (mvT hZ (hw _ (List.mem_of_getElem? (i := 1) rfl))) (g := (mkF m 8 #[.val (.long q1), .second, .val (.int p1), .val (.int p2), .val (.int p3), .val (.long k), .second, .unset, .unset, .unset, .unset, .unset, .unset, .unset, .unset, .unset, .unset, .unset, .unset, .unset, .unset] [(.int p1)])) rfl (hb hby at_8) _ kt) ?_
  refine go (T' := s₁) (g' := (mkF m 11 #[.val (.long q1), .second, .val (.int p1), .val (.int p2), .val (.int p3), .val (.long k), .second, .unset, .unset, .unset, .unset, .unset, .unset, .unset, .unset, .unset, .unset, .unset, .unset, .unset, .unset] [(.int (p1 &&& (65535 : Int32)))])) (fun t kt => XS.iand X0.here hx rfl (hb hby at_10) rfl kt) ?_
  refine go (T' := s₁) (g' := (mkF m 12 #[.val (.long q1), .second, .val (.int p1), .val (.int p2), .val (.int p3), .val (.long k), .second, .unset, .unset, .unset, .unset, .unset, .unset, .unset, .unset, .unset, .unset, .unset, .unset, .unset, .unset] [(.int (1 : Int32)), (.int (p1 &&& (65535 : Int32)))])) (fun t kt => XS.iconst X0.here hx rfl (hb hby at_11) kt) ?_
  refine go (T' := s₁) (g' := (mkF m 13 #[.val (.long q1), .second, .val (.int p1), .val (.int p2), .val (.int p3), .val (.long k), .second, .unset, .unset, .unset, .unset, .unset, .unset, .unset, .unset, .unset, .unset, .unset, .unset, .unset, .unset] [(.int ((p1 &&& (65535 : Int32)) + (1 : Int32)))])) (fun t kt => XS.iadd X0.here hx rfl (hb hby at_12) rfl kt) ?_
  obtain ⟨na, e_na⟩ : ∃ z, z = ((p1 &&& (65535 : Int32)) + (1 : Int32)) := ⟨_, rfl⟩
  refine goEq (g' := (mkF m 13 #[.val (.long q1), .second, .val (.int p1), .val (.int p2), .val (.int p3), .val (.long k), .second, .unset, .unset, .unset, .unset, .unset, .unset, .unset, .unset, .unset, .unset, .unset, .unset, .unset, .unset] [(.int na)])) (by rw [e_na]) ?_
  have hna : na ≠ 0 := by rw [e_na]; exact own_np _
  refine go (T' := s₁) (g' := (mkF m 14 #[.val (.long q1), .second, .val (.int p1), .val (.int p2), .val (.int p3), .val (.long k), .second, .unset, .unset, .unset, .unset, .unset, .unset, .unset, .unset, .unset, .unset, .unset, .unset, .unset, .unset] [(.double (FP.i2d na))])) (fun t kt => XS.i2dS X0.here hx rfl (hb hby at_13) rfl rfl kt) ?_
  refine go (T' := s₁) (g' := (mkF m 17 #[.val (.long q1), .second, .val (.int p1), .val (.int p2), .val (.int p3), .val (.long k), .second, .unset, .unset, .unset, .unset, .unset, .unset, .unset, .unset, .unset, .unset, .unset, .unset, .unset, .unset] [(.double own_q4), (.double (FP.i2d na))])) (fun t kt => X0.ldc2DoubleC hx hown (mvT hZ (hw _ (List.mem_of_getElem? (i := 2) rfl))) (g := (mkF m 14 #[.val (.long q1), .second, .val (.int p1), .val (.int p2), .val (.int p3), .val (.long k), .second, .unset, .unset, .unset, .unset, .unset, .unset, .unset, .unset, .unset, .unset, .unset, .unset, .unset, .unset] [(.double (FP.i2d na))])) rfl (hb hby at_14) _ kt) ?_
  refine go (T' := s₁) (g' := (mkF m 18 #[.val (.long q1), .second, .val (.int p1), .val (.int p2), .val (.int p3), .val (.long k), .second, .unset, .unset, .unset, .unset, .unset, .unset, .unset, .unset, .unset, .unset, .unset, .unset, .unset, .unset] [(.double (FP.ddiv (FP.i2d na) own_q4))])) (fun t kt => XS.ddivS X0.here hx rfl (hb hby at_17) rfl (own_n0 na) rfl kt) ?_
  refine goEq (g' := (mkF m 18 #[.val (.long q1), .second, .val (.int p1), .val (.int p2), .val (.int p3), .val (.long k), .second, .unset, .unset, .unset, .unset, .unset, .unset, .unset, .unset, .unset, .unset, .unset, .unset, .unset, .unset] [(.double (own_x na))])) (rfl) ?_
  refine go (T' := s₁) (g' := (mkF m 20 #[.val (.long q1), .second, .val (.int p1), .val (.int p2), .val (.int p3), .val (.long k), .second, .val (.double (own_x na)), .second, .unset, .unset, .unset, .unset, .unset, .unset, .unset, .unset, .unset, .unset, .unset, .unset] [])) (fun t kt => XS.dstore X0.here hx rfl (hb hby at_18) rfl (l' := #[.val (.long q1), .second, .val (.int p1), .val (.int p2), .val (.int p3), .val (.long k), .second, .val (.double (own_x na)), .second, .unset, .unset, .unset, .unset, .unset, .unset, .unset, .unset, .unset, .unset, .unset, .unset]) rfl kt) ?_
  obtain ⟨nb, e_nb⟩ : ∃ z, z = (if p3 &&& (1 : Int32) = 0 then (p2 &&& (65535 : Int32)) + 1 else na) := ⟨_, rfl⟩
  have hnb : nb ≠ 0 := by rw [e_nb]; exact own_npick _ _ hna
  refine goVia (T₂ := s₁) (g₂ := (mkF m 43 #[.val (.long q1), .second, .val (.int p1), .val (.int p2), .val (.int p3), .val (.long k), .second, .val (.double (own_x na)), .second, .unset, .unset, .unset, .unset, .unset, .unset, .unset, .unset, .unset, .unset, .unset, .unset] [(.double (own_x nb))])) (fun kV => ?_) ?_
  · refine go (T' := s₁) (g' := (mkF m 22 #[.val (.long q1), .second, .val (.int p1), .val (.int p2), .val (.int p3), .val (.long k), .second, .val (.double (own_x na)), .second, .unset, .unset, .unset, .unset, .unset, .unset, .unset, .unset, .unset, .unset, .unset, .unset] [(.int p3)])) (fun t kt => XS.iload X0.here hx rfl (hb hby at_20) rfl kt) ?_
    refine go (T' := s₁) (g' := (mkF m 23 #[.val (.long q1), .second, .val (.int p1), .val (.int p2), .val (.int p3), .val (.long k), .second, .val (.double (own_x na)), .second, .unset, .unset, .unset, .unset, .unset, .unset, .unset, .unset, .unset, .unset, .unset, .unset] [(.int (1 : Int32)), (.int p3)])) (fun t kt => XS.iconst X0.here hx rfl (hb hby at_22) kt) ?_
    refine go (T' := s₁) (g' := (mkF m 24 #[.val (.long q1), .second, .val (.int p1), .val (.int p2), .val (.int p3), .val (.long k), .second, .val (.double (own_x na)), .second, .unset, .unset, .unset, .unset, .unset, .unset, .unset, .unset, .unset, .unset, .unset, .unset] [(.int (p3 &&& (1 : Int32)))])) (fun t kt => XS.iand X0.here hx rfl (hb hby at_23) rfl kt) ?_
    by_cases hf : (p3 &&& (1 : Int32)) = (0 : Int32)
    · refine go (T' := s₁) (g' := (mkF m 32 #[.val (.long q1), .second, .val (.int p1), .val (.int p2), .val (.int p3), .val (.long k), .second, .val (.double (own_x na)), .second, .unset, .unset, .unset, .unset, .unset, .unset, .unset, .unset, .unset, .unset, .unset, .unset] [])) (fun t kt => XS.ifYes X0.here hx rfl (pc0 := 24) (pc' := 32) rfl (hb hby at_24) rfl ((if0 _ _).trans (teq hf).1) (by decide) (by decide) kt) ?_
      refine go (T' := s₁) (g' := (mkF m 33 #[.val (.long q1), .second, .val (.int p1), .val (.int p2), .val (.int p3), .val (.long k), .second, .val (.double (own_x na)), .second, .unset, .unset, .unset, .unset, .unset, .unset, .unset, .unset, .unset, .unset, .unset, .unset] [(.int p2)])) (fun t kt => XS.iloadN X0.here hx rfl (hb hby at_32) rfl kt) ?_
      refine go (T' := s₁) (g' := (mkF m 35 #[.val (.long q1), .second, .val (.int p1), .val (.int p2), .val (.int p3), .val (.long k), .second, .val (.double (own_x na)), .second, .unset, .unset, .unset, .unset, .unset, .unset, .unset, .unset, .unset, .unset, .unset, .unset] [(.int (65535 : Int32)), (.int p2)])) (fun t kt => X0.ldcInt hx hown (mvT hZ (hw _ (List.mem_of_getElem? (i := 1) rfl))) (g := (mkF m 33 #[.val (.long q1), .second, .val (.int p1), .val (.int p2), .val (.int p3), .val (.long k), .second, .val (.double (own_x na)), .second, .unset, .unset, .unset, .unset, .unset, .unset, .unset, .unset, .unset, .unset, .unset, .unset] [(.int p2)])) rfl (hb hby at_33) _ kt) ?_
      refine go (T' := s₁) (g' := (mkF m 36 #[.val (.long q1), .second, .val (.int p1), .val (.int p2), .val (.int p3), .val (.long k), .second, .val (.double (own_x na)), .second, .unset, .unset, .unset, .unset, .unset, .unset, .unset, .unset, .unset, .unset, .unset, .unset] [(.int (p2 &&& (65535 : Int32)))])) (fun t kt => XS.iand X0.here hx rfl (hb hby at_35) rfl kt) ?_
      refine go (T' := s₁) (g' := (mkF m 37 #[.val (.long q1), .second, .val (.int p1), .val (.int p2), .val (.int p3), .val (.long k), .second, .val (.double (own_x na)), .second, .unset, .unset, .unset, .unset, .unset, .unset, .unset, .unset, .unset, .unset, .unset, .unset] [(.int (1 : Int32)), (.int (p2 &&& (65535 : Int32)))])) (fun t kt => XS.iconst X0.here hx rfl (hb hby at_36) kt) ?_
      refine go (T' := s₁) (g' := (mkF m 38 #[.val (.long q1), .second, .val (.int p1), .val (.int p2), .val (.int p3), .val (.long k), .second, .val (.double (own_x na)), .second, .unset, .unset, .unset, .unset, .unset, .unset, .unset, .unset, .unset, .unset, .unset, .unset] [(.int ((p2 &&& (65535 : Int32)) + (1 : Int32)))])) (fun t kt => XS.iadd X0.here hx rfl (hb hby at_37) rfl kt) ?_
      refine go (T' := s₁) (g' := (mkF m 39 #[.val (.long q1), .second, .val (.int p1), .val (.int p2), .val (.int p3), .val (.long k), .second, .val (.double (own_x na)), .second, .unset, .unset, .unset, .unset, .unset, .unset, .unset, .unset, .unset, .unset, .unset, .unset] [(.double (FP.i2d ((p2 &&& (65535 : Int32)) + (1 : Int32))))])) (fun t kt => XS.i2dS X0.here hx rfl (hb hby at_38) rfl rfl kt) ?_
      refine go (T' := s₁) (g' := (mkF m 42 #[.val (.long q1), .second, .val (.int p1), .val (.int p2), .val (.int p3), .val (.long k), .second, .val (.double (own_x na)), .second, .unset, .unset, .unset, .unset, .unset, .unset, .unset, .unset, .unset, .unset, .unset, .unset] [(.double own_q4), (.double (FP.i2d ((p2 &&& (65535 : Int32)) + (1 : Int32))))])) (fun t kt => X0.ldc2DoubleC hx hown (mvT hZ (hw _ (List.mem_of_getElem? (i := 2) rfl))) (g := (mkF m 39 #[.val (.long q1), .second, .val (.int p1), .val (.int p2), .val (.int p3), .val (.long k), .second, .val (.double (own_x na)), .second, .unset, .unset, .unset, .unset, .unset, .unset, .unset, .unset, .unset, .unset, .unset, .unset] [(.double (FP.i2d ((p2 &&& (65535 : Int32)) + (1 : Int32))))])) rfl (hb hby at_39) _ kt) ?_
      refine go (T' := s₁) (g' := (mkF m 43 #[.val (.long q1), .second, .val (.int p1), .val (.int p2), .val (.int p3), .val (.long k), .second, .val (.double (own_x na)), .second, .unset, .unset, .unset, .unset, .unset, .unset, .unset, .unset, .unset, .unset, .unset, .unset] [(.double (FP.ddiv (FP.i2d ((p2 &&& (65535 : Int32)) + (1 : Int32))) own_q4))])) (fun t kt => XS.ddivS X0.here hx rfl (hb hby at_42) rfl (own_n0 _) rfl kt) ?_
      exact goEq (by rw [e_nb, if_pos hf]; rfl) kV
    · refine go (T' := s₁) (g' := (mkF m 27 #[.val (.long q1), .second, .val (.int p1), .val (.int p2), .val (.int p3), .val (.long k), .second, .val (.double (own_x na)), .second, .unset, .unset, .unset, .unset, .unset, .unset, .unset, .unset, .unset, .unset, .unset, .unset] [])) (fun t kt => XS.ifNo X0.here hx rfl (hb hby at_24) rfl ((if0 _ _).trans (feq hf).1) kt) ?_
      refine go (T' := s₁) (g' := (mkF m 29 #[.val (.long q1), .second, .val (.int p1), .val (.int p2), .val (.int p3), .val (.long k), .second, .val (.double (own_x na)), .second, .unset, .unset, .unset, .unset, .unset, .unset, .unset, .unset, .unset, .unset, .unset, .unset] [(.double (own_x na))])) (fun t kt => XS.dload X0.here hx rfl (hb hby at_27) rfl kt) ?_
      refine go (T' := s₁) (g' := (mkF m 43 #[.val (.long q1), .second, .val (.int p1), .val (.int p2), .val (.int p3), .val (.long k), .second, .val (.double (own_x na)), .second, .unset, .unset, .unset, .unset, .unset, .unset, .unset, .unset, .unset, .unset, .unset, .unset] [(.double (own_x na))])) (fun t kt => XS.goto X0.here hx rfl (pc0 := 29) (pc' := 43) rfl (hb hby at_29) (by decide) (by decide) kt) ?_
      exact goEq (by rw [e_nb, if_neg hf]) kV
  · refine go (T' := s₁) (g' := (mkF m 45 #[.val (.long q1), .second, .val (.int p1), .val (.int p2), .val (.int p3), .val (.long k), .second, .val (.double (own_x na)), .second, .val (.double (own_x nb)), .second, .unset, .unset, .unset, .unset, .unset, .unset, .unset, .unset, .unset, .unset] [])) (fun t kt => XS.dstore X0.here hx rfl (hb hby at_43) rfl (l' := #[.val (.long q1), .second, .val (.int p1), .val (.int p2), .val (.int p3), .val (.long k), .second, .val (.double (own_x na)), .second, .val (.double (own_x nb)), .second, .unset, .unset, .unset, .unset, .unset, .unset, .unset, .unset, .unset, .unset]) rfl kt) ?_
    obtain ⟨T1012, h1012, X1012, e1012, E1012, A1012, D1012, -, st1012⟩ := newO X0 hx hZ hown (hw _ (List.mem_of_getElem? (i := 3) rfl)) (hw _ (List.mem_of_getElem? (i := 4) rfl)) (hw _ (List.mem_of_getElem? (i := 5) rfl)) e0 (g := (mkF m 45 #[.val (.long q1), .second, .val (.int p1), .val (.int p2), .val (.int p3), .val (.long k), .second, .val (.double (own_x na)), .second, .val (.double (own_x nb)), .second, .unset, .unset, .unset, .unset, .unset, .unset, .unset, .unset, .unset, .unset] [])) rfl (hb hby at_45) (by decide) (by decide)
    obtain ⟨bx, g1012⟩ : ∃ z, z = h0.size := ⟨_, rfl⟩
    rw [← g1012] at A1012 D1012 st1012
    have g_bx : n0 ≤ bx := Nat.le_trans Z0 (Nat.le_of_eq g1012.symm)
    have z1012 : n0 ≤ h1012.size := Nat.le_trans Z0 E1012.1
    have y1012 : s.heap.size ≤ h1012.size := Nat.le_trans hk0 E1012.1
    have F_name_bx : Fld Z h1012 bx "com/example/tidemark/tidemark/VmType" "name" "Ljava/lang/String;" .null := D1012 (Or.inr (hw _ (List.mem_of_getElem? (i := 22) rfl))) (ty := (.object "java/lang/String")) (by decide)
    have F_family_bx : Fld Z h1012 bx "com/example/tidemark/tidemark/VmType" "family" "Ljava/lang/String;" .null := D1012 (Or.inr (hw _ (List.mem_of_getElem? (i := 24) rfl))) (ty := (.object "java/lang/String")) (by decide)
    have F_vcpus_bx : Fld Z h1012 bx "com/example/tidemark/tidemark/VmType" "vcpus" "I" (.int (0 : Int32)) := D1012 (Or.inr (hw _ (List.mem_of_getElem? (i := 26) rfl))) (ty := .int) (by decide)
    have F_bandwidthMbps_bx : Fld Z h1012 bx "com/example/tidemark/tidemark/VmType" "bandwidthMbps" "D" (.double 0) := D1012 (Or.inr (hw _ (List.mem_of_getElem? (i := 28) rfl))) (ty := .double) (by decide)
    have F_pricePerHour_bx : Fld Z h1012 bx "com/example/tidemark/tidemark/VmType" "pricePerHour" "D" (.double 0) := D1012 (Or.inr (hw _ (List.mem_of_getElem? (i := 30) rfl))) (ty := .double) (by decide)
    have F_speedFactor_bx : Fld Z h1012 bx "com/example/tidemark/tidemark/VmType" "speedFactor" "D" (.double 0) := D1012 (Or.inr (hw _ (List.mem_of_getElem? (i := 32) rfl))) (ty := .double) (by decide)
    refine go (T' := T1012) (g' := (mkF m 48 #[.val (.long q1), .second, .val (.int p1), .val (.int p2), .val (.int p3), .val (.long k), .second, .val (.double (own_x na)), .second, .val (.double (own_x nb)), .second, .unset, .unset, .unset, .unset, .unset, .unset, .unset, .unset, .unset, .unset] [(.ref bx)])) st1012 ?_
    refine go (T' := T1012) (g' := (mkF m 49 #[.val (.long q1), .second, .val (.int p1), .val (.int p2), .val (.int p3), .val (.long k), .second, .val (.double (own_x na)), .second, .val (.double (own_x nb)), .second, .unset, .unset, .unset, .unset, .unset, .unset, .unset, .unset, .unset, .unset] [(.ref bx), (.ref bx)])) (fun t kt => XS.dup X1012.here hx rfl (hb hby at_48) rfl rfl kt) ?_
    obtain ⟨sx, T1013, h1013, k1013, X1013, e1013, E1013, hS1013, hk1013, hZ1013, hown1013, st1013⟩ := ldcS X1012 hx hZ hown (hw _ (List.mem_of_getElem? (i := 6) rfl)) (own_wS hw) e1012 hS0 y1012 (g := (mkF m 49 #[.val (.long q1), .second, .val (.int p1), .val (.int p2), .val (.int p3), .val (.long k), .second, .val (.double (own_x na)), .second, .val (.double (own_x nb)), .second, .unset, .unset, .unset, .unset, .unset, .unset, .unset, .unset, .unset, .unset] [(.ref bx), (.ref bx)])) rfl (hb hby at_49) (n := 4) (by decide) (by decide) (by decide) (by decide)
    have z1013 : n0 ≤ h1013.size := Nat.le_trans z1012 E1013.1
    have fE_bx_1013 : Exa Z h1013 bx "com/example/tidemark/tidemark/VmType" := A1012.ext E1013
    have fF_bx_name_1013 : Fld Z h1013 bx "com/example/tidemark/tidemark/VmType" "name" "Ljava/lang/String;" .null := F_name_bx.ext E1013
    have fF_bx_family_1013 : Fld Z h1013 bx "com/example/tidemark/tidemark/VmType" "family" "Ljava/lang/String;" .null := F_family_bx.ext E1013
    have fF_bx_vcpus_1013 : Fld Z h1013 bx "com/example/tidemark/tidemark/VmType" "vcpus" "I" (.int (0 : Int32)) := F_vcpus_bx.ext E1013
    have fF_bx_bandwidthMbps_1013 : Fld Z h1013 bx "com/example/tidemark/tidemark/VmType" "bandwidthMbps" "D" (.double 0) := F_bandwidthMbps_bx.ext E1013
    have fF_bx_pricePerHour_1013 : Fld Z h1013 bx "com/example/tidemark/tidemark/VmType" "pricePerHour" "D" (.double 0) := F_pricePerHour_bx.ext E1013
    have fF_bx_speedFactor_1013 : Fld Z h1013 bx "com/example/tidemark/tidemark/VmType" "speedFactor" "D" (.double 0) := F_speedFactor_bx.ext E1013
    refine go (T' := T1013) (g' := (mkF m 51 #[.val (.long q1), .second, .val (.int p1), .val (.int p2), .val (.int p3), .val (.long k), .second, .val (.double (own_x na)), .second, .val (.double (own_x nb)), .second, .unset, .unset, .unset, .unset, .unset, .unset, .unset, .unset, .unset, .unset] [(.ref sx), (.ref bx), (.ref bx)])) st1013 ?_
    obtain ⟨sf, T1014, h1014, k1014, X1014, e1014, E1014, hS1014, hk1014, hZ1014, hown1014, st1014⟩ := ldcS X1013 hx hZ1013 hown1013 (hw _ (List.mem_of_getElem? (i := 14) rfl)) (own_wS hw) e1013 hS1013 hk1013 (g := (mkF m 51 #[.val (.long q1), .second, .val (.int p1), .val (.int p2), .val (.int p3), .val (.long k), .second, .val (.double (own_x na)), .second, .val (.double (own_x nb)), .second, .unset, .unset, .unset, .unset, .unset, .unset, .unset, .unset, .unset, .unset] [(.ref sx), (.ref bx), (.ref bx)])) rfl (hb hby at_51) (n := 4) (by decide) (by decide) (by decide) (by decide)
    have z1014 : n0 ≤ h1014.size := Nat.le_trans z1013 E1014.1
    have fE_bx_1014 : Exa Z h1014 bx "com/example/tidemark/tidemark/VmType" := fE_bx_1013.ext E1014
    have fF_bx_name_1014 : Fld Z h1014 bx "com/example/tidemark/tidemark/VmType" "name" "Ljava/lang/String;" .null := fF_bx_name_1013.ext E1014
    have fF_bx_family_1014 : Fld Z h1014 bx "com/example/tidemark/tidemark/VmType" "family" "Ljava/lang/String;" .null := fF_bx_family_1013.ext E1014
    have fF_bx_vcpus_1014 : Fld Z h1014 bx "com/example/tidemark/tidemark/VmType" "vcpus" "I" (.int (0 : Int32)) := fF_bx_vcpus_1013.ext E1014
    have fF_bx_bandwidthMbps_1014 : Fld Z h1014 bx "com/example/tidemark/tidemark/VmType" "bandwidthMbps" "D" (.double 0) := fF_bx_bandwidthMbps_1013.ext E1014
    have fF_bx_pricePerHour_1014 : Fld Z h1014 bx "com/example/tidemark/tidemark/VmType" "pricePerHour" "D" (.double 0) := fF_bx_pricePerHour_1013.ext E1014
    have fF_bx_speedFactor_1014 : Fld Z h1014 bx "com/example/tidemark/tidemark/VmType" "speedFactor" "D" (.double 0) := fF_bx_speedFactor_1013.ext E1014
    refine go (T' := T1014) (g' := (mkF m 53 #[.val (.long q1), .second, .val (.int p1), .val (.int p2), .val (.int p3), .val (.long k), .second, .val (.double (own_x na)), .second, .val (.double (own_x nb)), .second, .unset, .unset, .unset, .unset, .unset, .unset, .unset, .unset, .unset, .unset] [(.ref sf), (.ref sx), (.ref bx), (.ref bx)])) st1014 ?_
    refine go (T' := T1014) (g' := (mkF m 54 #[.val (.long q1), .second, .val (.int p1), .val (.int p2), .val (.int p3), .val (.long k), .second, .val (.double (own_x na)), .second, .val (.double (own_x nb)), .second, .unset, .unset, .unset, .unset, .unset, .unset, .unset, .unset, .unset, .unset] [(.int (1 : Int32)), (.ref sf), (.ref sx), (.ref bx), (.ref bx)])) (fun t kt => XS.iconst X1014.here hx rfl (hb hby at_53) kt) ?_
    refine go (T' := T1014) (g' := (mkF m 56 #[.val (.long q1), .second, .val (.int p1), .val (.int p2), .val (.int p3), .val (.long k), .second, .val (.double (own_x na)), .second, .val (.double (own_x nb)), .second, .unset, .unset, .unset, .unset, .unset, .unset, .unset, .unset, .unset, .unset] [(.double (own_x na)), (.int (1 : Int32)), (.ref sf), (.ref sx), (.ref bx), (.ref bx)])) (fun t kt => XS.dload X1014.here hx rfl (hb hby at_54) rfl kt) ?_
    refine go (T' := T1014) (g' := (mkF m 57 #[.val (.long q1), .second, .val (.int p1), .val (.int p2), .val (.int p3), .val (.long k), .second, .val (.double (own_x na)), .second, .val (.double (own_x nb)), .second, .unset, .unset, .unset, .unset, .unset, .unset, .unset, .unset, .unset, .unset] [(.double FP.dconst0), (.double (own_x na)), (.int (1 : Int32)), (.ref sf), (.ref sx), (.ref bx), (.ref bx)])) (fun t kt => XS.dconst0 X1014.here hx rfl (hb hby at_56) rfl kt) ?_
    refine go (T' := T1014) (g' := (mkF m 58 #[.val (.long q1), .second, .val (.int p1), .val (.int p2), .val (.int p3), .val (.long k), .second, .val (.double (own_x na)), .second, .val (.double (own_x nb)), .second, .unset, .unset, .unset, .unset, .unset, .unset, .unset, .unset, .unset, .unset] [(.double FP.dconst1), (.double FP.dconst0), (.double (own_x na)), (.int (1 : Int32)), (.ref sf), (.ref sx), (.ref bx), (.ref bx)])) (fun t kt => XS.dconst1 X1014.here hx rfl (hb hby at_57) rfl kt) ?_
    obtain ⟨_, _, ⟨T1015, L1015, k1015, n1015⟩, -, X1015, ⟨Lc1015, hQ1015, l1015, y1015, z1015⟩, st1015⟩ := X1014.specialBack hx (y := (⟨"com/example/tidemark/tidemark/VmType", "<init>", "(Ljava/lang/String;Ljava/lang/String;IDDD)V"⟩ : MethodName)) rfl hown1014 (mvT hZ1014 (hw _ (List.mem_of_getElem? (i := 15) rfl))) (mvT hZ1014 (hw _ (List.mem_of_getElem? (i := 16) rfl))) (mvT hZ1014 (hw _ (List.mem_of_getElem? (i := 17) rfl))) (by decide) (backOf (W := 1) (rm1 l Z a0 hw [] bx sx sf 1 (own_x na) FP.dconst0 FP.dconst1 h1014 n0 z1014 g_bx fE_bx_1014 fF_bx_name_1014 fF_bx_family_1014 fF_bx_vcpus_1014 fF_bx_bandwidthMbps_1014 fF_bx_pricePerHour_1014 fF_bx_speedFactor_1014) hZ1014 (hw _ (List.mem_of_getElem? (i := 17) rfl)) (hw _ (List.mem_of_getElem? (i := 5) rfl)) (by decide) (by decide)) (g := (mkF m 58 #[.val (.long q1), .second, .val (.int p1), .val (.int p2), .val (.int p3), .val (.long k), .second, .val (.double (own_x na)), .second, .val (.double (own_x nb)), .second, .unset, .unset, .unset, .unset, .unset, .unset, .unset, .unset, .unset, .unset] [(.double FP.dconst1), (.double FP.dconst0), (.double (own_x na)), (.int (1 : Int32)), (.ref sf), (.ref sx), (.ref bx), (.ref bx)])) rfl (by rw [hml]; rfl) (Steps.refl _) (a := bx) (argsL := [(.ref sx), (.ref sf), (.int (1 : Int32)), (.double (own_x na)), (.double FP.dconst0), (.double FP.dconst1)]) (rest := [(.ref bx)]) (lenOf pd_2 rfl) rfl (by show 2 * 0 + _ ≤ _; exact Nat.le_of_eq rfl) (hb hby at_58) (fun _ _ => ⟨rfl, e1014, (by decide : 5 + 0 ≤ _), (by decide : 22 + 0 ≤ _)⟩)
    dsimp only [Pt.U, Pt.locs, Pt.cells, Pt.slots] at X1015 l1015 y1015 z1015 st1015 hQ1015
    subst l1015 y1015 z1015
    obtain ⟨rfl, N1015q, K1015, F1015a⟩ := hQ1015
    have N1015 := Fr.app N0 N1015q
    refine goV (T' := T1015) (g' := (mkF m 61 #[.val (.long q1), .second, .val (.int p1), .val (.int p2), .val (.int p3), .val (.long k), .second, .val (.double (own_x na)), .second, .val (.double (own_x nb)), .second, .unset, .unset, .unset, .unset, .unset, .unset, .unset, .unset, .unset, .unset] [(.ref bx)])) st1015 ?_
    have z1015 : n0 ≤ T1015.heap.size := Nat.le_trans z1014 K1015.1
    have y1015 : k1014 ≤ T1015.heap.size := Nat.le_trans hk1014 K1015.1
    have fE_bx_1015 : Exa Z T1015.heap bx "com/example/tidemark/tidemark/VmType" := fE_bx_1014.keep K1015
    refine go (T' := T1015) (g' := (mkF m 63 #[.val (.long q1), .second, .val (.int p1), .val (.int p2), .val (.int p3), .val (.long k), .second, .val (.double (own_x na)), .second, .val (.double (own_x nb)), .second, .val (.ref bx), .unset, .unset, .unset, .unset, .unset, .unset, .unset, .unset, .unset] [])) (fun t kt => XS.astore X1015.here hx rfl (hb hby at_61) rfl rfl (l' := #[.val (.long q1), .second, .val (.int p1), .val (.int p2), .val (.int p3), .val (.long k), .second, .val (.double (own_x na)), .second, .val (.double (own_x nb)), .second, .val (.ref bx), .unset, .unset, .unset, .unset, .unset, .unset, .unset, .unset, .unset]) rfl kt) ?_
    obtain ⟨T1016, h1016, X1016, e1016, E1016, A1016, D1016, -, st1016⟩ := newO X1015 hx hZ1014 hown1014 (hw _ (List.mem_of_getElem? (i := 3) rfl)) (hw _ (List.mem_of_getElem? (i := 4) rfl)) (hw _ (List.mem_of_getElem? (i := 5) rfl)) rfl (g := (mkF m 63 #[.val (.long q1), .second, .val (.int p1), .val (.int p2), .val (.int p3), .val (.long k), .second, .val (.double (own_x na)), .second, .val (.double (own_x nb)), .second, .val (.ref bx), .unset, .unset, .unset, .unset, .unset, .unset, .unset, .unset, .unset] [])) rfl (hb hby at_63) (by decide) (by decide)
    obtain ⟨by_, g1016⟩ : ∃ z, z = T1015.heap.size := ⟨_, rfl⟩
    rw [← g1016] at A1016 D1016 st1016
    have ne_bx_by_ : bx ≠ by_ := Nat.ne_of_lt (Nat.lt_of_lt_of_le fE_bx_1015.lt (Nat.le_of_eq g1016.symm))
    have g_by_ : n0 ≤ by_ := Nat.le_trans z1015 (Nat.le_of_eq g1016.symm)
    have z1016 : n0 ≤ h1016.size := Nat.le_trans z1015 E1016.1
    have y1016 : k1014 ≤ h1016.size := Nat.le_trans y1015 E1016.1
    have fE_bx_1016 : Exa Z h1016 bx "com/example/tidemark/tidemark/VmType" := fE_bx_1015.ext E1016
    have fF_bx_bandwidthMbps_1016 : Fld Z h1016 bx "com/example/tidemark/tidemark/VmType" "bandwidthMbps" "D" (.double (own_x na)) := F1015a.ext E1016
    have F_name_by_ : Fld Z h1016 by_ "com/example/tidemark/tidemark/VmType" "name" "Ljava/lang/String;" .null := D1016 (Or.inr (hw _ (List.mem_of_getElem? (i := 22) rfl))) (ty := (.object "java/lang/String")) (by decide)
    have F_family_by_ : Fld Z h1016 by_ "com/example/tidemark/tidemark/VmType" "family" "Ljava/lang/String;" .null := D1016 (Or.inr (hw _ (List.mem_of_getElem? (i := 24) rfl))) (ty := (.object "java/lang/String")) (by decide)
    have F_vcpus_by_ : Fld Z h1016 by_ "com/example/tidemark/tidemark/VmType" "vcpus" "I" (.int (0 : Int32)) := D1016 (Or.inr (hw _ (List.mem_of_getElem? (i := 26) rfl))) (ty := .int) (by decide)
    have F_bandwidthMbps_by_ : Fld Z h1016 by_ "com/example/tidemark/tidemark/VmType" "bandwidthMbps" "D" (.double 0) := D1016 (Or.inr (hw _ (List.mem_of_getElem? (i := 28) rfl))) (ty := .double) (by decide)
    have F_pricePerHour_by_ : Fld Z h1016 by_ "com/example/tidemark/tidemark/VmType" "pricePerHour" "D" (.double 0) := D1016 (Or.inr (hw _ (List.mem_of_getElem? (i := 30) rfl))) (ty := .double) (by decide)
    have F_speedFactor_by_ : Fld Z h1016 by_ "com/example/tidemark/tidemark/VmType" "speedFactor" "D" (.double 0) := D1016 (Or.inr (hw _ (List.mem_of_getElem? (i := 32) rfl))) (ty := .double) (by decide)
    refine go (T' := T1016) (g' := (mkF m 66 #[.val (.long q1), .second, .val (.int p1), .val (.int p2), .val (.int p3), .val (.long k), .second, .val (.double (own_x na)), .second, .val (.double (own_x nb)), .second, .val (.ref bx), .unset, .unset, .unset, .unset, .unset, .unset, .unset, .unset, .unset] [(.ref by_)])) st1016 ?_
    refine go (T' := T1016) (g' := (mkF m 67 #[.val (.long q1), .second, .val (.int p1), .val (.int p2), .val (.int p3), .val (.long k), .second, .val (.double (own_x na)), .second, .val (.double (own_x nb)), .second, .val (.ref bx), .unset, .unset, .unset, .unset, .unset, .unset, .unset, .unset, .unset] [(.ref by_), (.ref by_)])) (fun t kt => XS.dup X1016.here hx rfl (hb hby at_66) rfl rfl kt) ?_
    obtain ⟨sy, T1017, h1017, k1017, X1017, e1017, E1017, hS1017, hk1017, hZ1017, hown1017, st1017⟩ := ldcS X1016 hx hZ1014 hown1014 (hw _ (List.mem_of_getElem? (i := 33) rfl)) (own_wS hw) e1016 hS1014 y1016 (g := (mkF m 67 #[.val (.long q1), .second, .val (.int p1), .val (.int p2), .val (.int p3), .val (.long k), .second, .val (.double (own_x na)), .second, .val (.double (own_x nb)), .second, .val (.ref bx), .unset, .unset, .unset, .unset, .unset, .unset, .unset, .unset, .unset] [(.ref by_), (.ref by_)])) rfl (hb hby at_67) (n := 4) (by decide) (by decide) (by decide) (by decide)
    have z1017 : n0 ≤ h1017.size := Nat.le_trans z1016 E1017.1
    have fE_bx_1017 : Exa Z h1017 bx "com/example/tidemark/tidemark/VmType" := fE_bx_1016.ext E1017
    have fF_bx_bandwidthMbps_1017 : Fld Z h1017 bx "com/example/tidemark/tidemark/VmType" "bandwidthMbps" "D" (.double (own_x na)) := fF_bx_bandwidthMbps_1016.ext E1017
    have fE_by__1017 : Exa Z h1017 by_ "com/example/tidemark/tidemark/VmType" := A1016.ext E1017
    have fF_by__name_1017 : Fld Z h1017 by_ "com/example/tidemark/tidemark/VmType" "name" "Ljava/lang/String;" .null := F_name_by_.ext E1017
    have fF_by__family_1017 : Fld Z h1017 by_ "com/example/tidemark/tidemark/VmType" "family" "Ljava/lang/String;" .null := F_family_by_.ext E1017
    have fF_by__vcpus_1017 : Fld Z h1017 by_ "com/example/tidemark/tidemark/VmType" "vcpus" "I" (.int (0 : Int32)) := F_vcpus_by_.ext E1017
    have fF_by__bandwidthMbps_1017 : Fld Z h1017 by_ "com/example/tidemark/tidemark/VmType" "bandwidthMbps" "D" (.double 0) := F_bandwidthMbps_by_.ext E1017
    have fF_by__pricePerHour_1017 : Fld Z h1017 by_ "com/example/tidemark/tidemark/VmType" "pricePerHour" "D" (.double 0) := F_pricePerHour_by_.ext E1017
    have fF_by__speedFactor_1017 : Fld Z h1017 by_ "com/example/tidemark/tidemark/VmType" "speedFactor" "D" (.double 0) := F_speedFactor_by_.ext E1017
    refine go (T' := T1017) (g' := (mkF m 69 #[.val (.long q1), .second, .val (.int p1), .val (.int p2), .val (.int p3), .val (.long k), .second, .val (.double (own_x na)), .second, .val (.double (own_x nb)), .second, .val (.ref bx), .unset, .unset, .unset, .unset, .unset, .unset, .unset, .unset, .unset] [(.ref sy), (.ref by_), (.ref by_)])) st1017 ?_
    obtain ⟨sg, T1018, h1018, k1018, X1018, e1018, E1018, hS1018, hk1018, hZ1018, hown1018, st1018⟩ := ldcS X1017 hx hZ1017 hown1017 (hw _ (List.mem_of_getElem? (i := 14) rfl)) (own_wS hw) e1017 hS1017 hk1017 (g := (mkF m 69 #[.val (.long q1), .second, .val (.int p1), .val (.int p2), .val (.int p3), .val (.long k), .second, .val (.double (own_x na)), .second, .val (.double (own_x nb)), .second, .val (.ref bx), .unset, .unset, .unset, .unset, .unset, .unset, .unset, .unset, .unset] [(.ref sy), (.ref by_), (.ref by_)])) rfl (hb hby at_69) (n := 4) (by decide) (by decide) (by decide) (by decide)
    have z1018 : n0 ≤ h1018.size := Nat.le_trans z1017 E1018.1
    have fE_bx_1018 : Exa Z h1018 bx "com/example/tidemark/tidemark/VmType" := fE_bx_1017.ext E1018
    have fF_bx_bandwidthMbps_1018 : Fld Z h1018 bx "com/example/tidemark/tidemark/VmType" "bandwidthMbps" "D" (.double (own_x na)) := fF_bx_bandwidthMbps_1017.ext E1018
    have fE_by__1018 : Exa Z h1018 by_ "com/example/tidemark/tidemark/VmType" := fE_by__1017.ext E1018
    have fF_by__name_1018 : Fld Z h1018 by_ "com/example/tidemark/tidemark/VmType" "name" "Ljava/lang/String;" .null := fF_by__name_1017.ext E1018
    have fF_by__family_1018 : Fld Z h1018 by_ "com/example/tidemark/tidemark/VmType" "family" "Ljava/lang/String;" .null := fF_by__family_1017.ext E1018
    have fF_by__vcpus_1018 : Fld Z h1018 by_ "com/example/tidemark/tidemark/VmType" "vcpus" "I" (.int (0 : Int32)) := fF_by__vcpus_1017.ext E1018
    have fF_by__bandwidthMbps_1018 : Fld Z h1018 by_ "com/example/tidemark/tidemark/VmType" "bandwidthMbps" "D" (.double 0) := fF_by__bandwidthMbps_1017.ext E1018
    have fF_by__pricePerHour_1018 : Fld Z h1018 by_ "com/example/tidemark/tidemark/VmType" "pricePerHour" "D" (.double 0) := fF_by__pricePerHour_1017.ext E1018
    have fF_by__speedFactor_1018 : Fld Z h1018 by_ "com/example/tidemark/tidemark/VmType" "speedFactor" "D" (.double 0) := fF_by__speedFactor_1017.ext E1018
    refine go (T' := T1018) (g' := (mkF m 71 #[.val (.long q1), .second, .val (.int p1), .val (.int p2), .val (.int p3), .val (.long k), .second, .val (.double (own_x na)), .second, .val (.double (own_x nb)), .second, .val (.ref bx), .unset, .unset, .unset, .unset, .unset, .unset, .unset, .unset, .unset] [(.ref sg), (.ref sy), (.ref by_), (.ref by_)])) st1018 ?_
    refine go (T' := T1018) (g' := (mkF m 72 #[.val (.long q1), .second, .val (.int p1), .val (.int p2), .val (.int p3), .val (.long k), .second, .val (.double (own_x na)), .second, .val (.double (own_x nb)), .second, .val (.ref bx), .unset, .unset, .unset, .unset, .unset, .unset, .unset, .unset, .unset] [(.int (1 : Int32)), (.ref sg), (.ref sy), (.ref by_), (.ref by_)])) (fun t kt => XS.iconst X1018.here hx rfl (hb hby at_71) kt) ?_
    refine go (T' := T1018) (g' := (mkF m 74 #[.val (.long q1), .second, .val (.int p1), .val (.int p2), .val (.int p3), .val (.long k), .second, .val (.double (own_x na)), .second, .val (.double (own_x nb)), .second, .val (.ref bx), .unset, .unset, .unset, .unset, .unset, .unset, .unset, .unset, .unset] [(.double (own_x nb)), (.int (1 : Int32)), (.ref sg), (.ref sy), (.ref by_), (.ref by_)])) (fun t kt => XS.dload X1018.here hx rfl (hb hby at_72) rfl kt) ?_
    refine go (T' := T1018) (g' := (mkF m 75 #[.val (.long q1), .second, .val (.int p1), .val (.int p2), .val (.int p3), .val (.long k), .second, .val (.double (own_x na)), .second, .val (.double (own_x nb)), .second, .val (.ref bx), .unset, .unset, .unset, .unset, .unset, .unset, .unset, .unset, .unset] [(.double FP.dconst0), (.double (own_x nb)), (.int (1 : Int32)), (.ref sg), (.ref sy), (.ref by_), (.ref by_)])) (fun t kt => XS.dconst0 X1018.here hx rfl (hb hby at_74) rfl kt) ?_
    refine go (T' := T1018) (g' := (mkF m 76 #[.val (.long q1), .second, .val (.int p1), .val (.int p2), .val (.int p3), .val (.long k), .second, .val (.double (own_x na)), .second, .val (.double (own_x nb)), .second, .val (.ref bx), .unset, .unset, .unset, .unset, .unset, .unset, .unset, .unset, .unset] [(.double FP.dconst1), (.double FP.dconst0), (.double (own_x nb)), (.int (1 : Int32)), (.ref sg), (.ref sy), (.ref by_), (.ref by_)])) (fun t kt => XS.dconst1 X1018.here hx rfl (hb hby at_75) rfl kt) ?_
    obtain ⟨_, _, ⟨T1019, L1019, k1019, n1019⟩, -, X1019, ⟨Lc1019, hQ1019, l1019, y1019, z1019⟩, st1019⟩ := X1018.specialBack hx (y := (⟨"com/example/tidemark/tidemark/VmType", "<init>", "(Ljava/lang/String;Ljava/lang/String;IDDD)V"⟩ : MethodName)) rfl hown1018 (mvT hZ1018 (hw _ (List.mem_of_getElem? (i := 15) rfl))) (mvT hZ1018 (hw _ (List.mem_of_getElem? (i := 16) rfl))) (mvT hZ1018 (hw _ (List.mem_of_getElem? (i := 17) rfl))) (by decide) (backOf (W := 1) (rm1 l Z a0 hw [] by_ sy sg 1 (own_x nb) FP.dconst0 FP.dconst1 h1018 n0 z1018 g_by_ fE_by__1018 fF_by__name_1018 fF_by__family_1018 fF_by__vcpus_1018 fF_by__bandwidthMbps_1018 fF_by__pricePerHour_1018 fF_by__speedFactor_1018) hZ1018 (hw _ (List.mem_of_getElem? (i := 17) rfl)) (hw _ (List.mem_of_getElem? (i := 5) rfl)) (by decide) (by decide)) (g := (mkF m 76 #[.val (.long q1), .second, .val (.int p1), .val (.int p2), .val (.int p3), .val (.long k), .second, .val (.double (own_x na)), .second, .val (.double (own_x nb)), .second, .val (.ref bx), .unset, .unset, .unset, .unset, .unset, .unset, .unset, .unset, .unset] [(.double FP.dconst1), (.double FP.dconst0), (.double (own_x nb)), (.int (1 : Int32)), (.ref sg), (.ref sy), (.ref by_), (.ref by_)])) rfl (by rw [hml]; rfl) (Steps.refl _) (a := by_) (argsL := [(.ref sy), (.ref sg), (.int (1 : Int32)), (.double (own_x nb)), (.double FP.dconst0), (.double FP.dconst1)]) (rest := [(.ref by_)]) (lenOf pd_2 rfl) rfl (by show 2 * 0 + _ ≤ _; exact Nat.le_of_eq rfl) (hb hby at_76) (fun _ _ => ⟨rfl, e1018, (by decide : 10 + 0 ≤ _), (by decide : 44 + 0 ≤ _)⟩)
    dsimp only [Pt.U, Pt.locs, Pt.cells, Pt.slots] at X1019 l1019 y1019 z1019 st1019 hQ1019
    subst l1019 y1019 z1019
    obtain ⟨rfl, N1019q, K1019, F1019a⟩ := hQ1019
    have N1019 := Fr.app N1015 N1019q
    refine goV (T' := T1019) (g' := (mkF m 79 #[.val (.long q1), .second, .val (.int p1), .val (.int p2), .val (.int p3), .val (.long k), .second, .val (.double (own_x na)), .second, .val (.double (own_x nb)), .second, .val (.ref bx), .unset, .unset, .unset, .unset, .unset, .unset, .unset, .unset, .unset] [(.ref by_)])) st1019 ?_
    have z1019 : n0 ≤ T1019.heap.size := Nat.le_trans z1018 K1019.1
    have y1019 : k1018 ≤ T1019.heap.size := Nat.le_trans hk1018 K1019.1
    have fE_bx_1019 : Exa Z T1019.heap bx "com/example/tidemark/tidemark/VmType" := fE_bx_1018.keep K1019
    have fF_bx_bandwidthMbps_1019 : Fld Z T1019.heap bx "com/example/tidemark/tidemark/VmType" "bandwidthMbps" "D" (.double (own_x na)) := fF_bx_bandwidthMbps_1018.keep K1019 (ninS ne_bx_by_ nin0)
    have fE_by__1019 : Exa Z T1019.heap by_ "com/example/tidemark/tidemark/VmType" := fE_by__1018.keep K1019
    refine go (T' := T1019) (g' := (mkF m 81 #[.val (.long q1), .second, .val (.int p1), .val (.int p2), .val (.int p3), .val (.long k), .second, .val (.double (own_x na)), .second, .val (.double (own_x nb)), .second, .val (.ref bx), .val (.ref by_), .unset, .unset, .unset, .unset, .unset, .unset, .unset, .unset] [])) (fun t kt => XS.astore X1019.here hx rfl (hb hby at_79) rfl rfl (l' := #[.val (.long q1), .second, .val (.int p1), .val (.int p2), .val (.int p3), .val (.long k), .second, .val (.double (own_x na)), .second, .val (.double (own_x nb)), .second, .val (.ref bx), .val (.ref by_), .unset, .unset, .unset, .unset, .unset, .unset, .unset, .unset]) rfl kt) ?_
    refine go (T' := T1019) (g' := (mkF m 83 #[.val (.long q1), .second, .val (.int p1), .val (.int p2), .val (.int p3), .val (.long k), .second, .val (.double (own_x na)), .second, .val (.double (own_x nb)), .second, .val (.ref bx), .val (.ref by_), .unset, .unset, .unset, .unset, .unset, .unset, .unset, .unset] [(.double (own_x na))])) (fun t kt => XS.dload X1019.here hx rfl (hb hby at_81) rfl kt) ?_
    refine go (T' := T1019) (g' := (mkF m 85 #[.val (.long q1), .second, .val (.int p1), .val (.int p2), .val (.int p3), .val (.long k), .second, .val (.double (own_x na)), .second, .val (.double (own_x nb)), .second, .val (.ref bx), .val (.ref by_), .val (.double (own_x na)), .second, .unset, .unset, .unset, .unset, .unset, .unset] [])) (fun t kt => XS.dstore X1019.here hx rfl (hb hby at_83) rfl (l' := #[.val (.long q1), .second, .val (.int p1), .val (.int p2), .val (.int p3), .val (.long k), .second, .val (.double (own_x na)), .second, .val (.double (own_x nb)), .second, .val (.ref bx), .val (.ref by_), .val (.double (own_x na)), .second, .unset, .unset, .unset, .unset, .unset, .unset]) rfl kt) ?_
    refine goVia (T₂ := T1019) (g₂ := (mkF m 97 #[.val (.long q1), .second, .val (.int p1), .val (.int p2), .val (.int p3), .val (.long k), .second, .val (.double (own_x na)), .second, .val (.double (own_x nb)), .second, .val (.ref bx), .val (.ref by_), .val (.double (own_slow (own_x na) (own_x nb))), .second, .unset, .unset, .unset, .unset, .unset, .unset] [])) (fun kV => ?_) ?_
    · refine go (T' := T1019) (g' := (mkF m 87 #[.val (.long q1), .second, .val (.int p1), .val (.int p2), .val (.int p3), .val (.long k), .second, .val (.double (own_x na)), .second, .val (.double (own_x nb)), .second, .val (.ref bx), .val (.ref by_), .val (.double (own_x na)), .second, .unset, .unset, .unset, .unset, .unset, .unset] [(.double (own_x nb))])) (fun t kt => XS.dload X1019.here hx rfl (hb hby at_85) rfl kt) ?_
      refine go (T' := T1019) (g' := (mkF m 89 #[.val (.long q1), .second, .val (.int p1), .val (.int p2), .val (.int p3), .val (.long k), .second, .val (.double (own_x na)), .second, .val (.double (own_x nb)), .second, .val (.ref bx), .val (.ref by_), .val (.double (own_x na)), .second, .unset, .unset, .unset, .unset, .unset, .unset] [(.double (own_x na)), (.double (own_x nb))])) (fun t kt => XS.dload X1019.here hx rfl (hb hby at_87) rfl kt) ?_
      refine go (T' := T1019) (g' := (mkF m 90 #[.val (.long q1), .second, .val (.int p1), .val (.int p2), .val (.int p3), .val (.long k), .second, .val (.double (own_x na)), .second, .val (.double (own_x nb)), .second, .val (.ref bx), .val (.ref by_), .val (.double (own_x na)), .second, .unset, .unset, .unset, .unset, .unset, .unset] [(.int (cmpValue (FP.dcmp (own_x nb) (own_x na)) .g))])) (fun t kt => XS.dcmpS X1019.here hx rfl (hb hby at_89) rfl rfl kt) ?_
      by_cases hlt : (cmpValue (FP.dcmp (own_x nb) (own_x na)) .g) < (0 : Int32)
      · refine go (T' := T1019) (g' := (mkF m 93 #[.val (.long q1), .second, .val (.int p1), .val (.int p2), .val (.int p3), .val (.long k), .second, .val (.double (own_x na)), .second, .val (.double (own_x nb)), .second, .val (.ref bx), .val (.ref by_), .val (.double (own_x na)), .second, .unset, .unset, .unset, .unset, .unset, .unset] [])) (fun t kt => XS.ifNo X1019.here hx rfl (hb hby at_90) rfl ((if0 _ _).trans (tlt hlt).2.1) kt) ?_
        refine go (T' := T1019) (g' := (mkF m 95 #[.val (.long q1), .second, .val (.int p1), .val (.int p2), .val (.int p3), .val (.long k), .second, .val (.double (own_x na)), .second, .val (.double (own_x nb)), .second, .val (.ref bx), .val (.ref by_), .val (.double (own_x na)), .second, .unset, .unset, .unset, .unset, .unset, .unset] [(.double (own_x nb))])) (fun t kt => XS.dload X1019.here hx rfl (hb hby at_93) rfl kt) ?_
        refine go (T' := T1019) (g' := (mkF m 97 #[.val (.long q1), .second, .val (.int p1), .val (.int p2), .val (.int p3), .val (.long k), .second, .val (.double (own_x na)), .second, .val (.double (own_x nb)), .second, .val (.ref bx), .val (.ref by_), .val (.double (own_x nb)), .second, .unset, .unset, .unset, .unset, .unset, .unset] [])) (fun t kt => XS.dstore X1019.here hx rfl (hb hby at_95) rfl (l' := #[.val (.long q1), .second, .val (.int p1), .val (.int p2), .val (.int p3), .val (.long k), .second, .val (.double (own_x na)), .second, .val (.double (own_x nb)), .second, .val (.ref bx), .val (.ref by_), .val (.double (own_x nb)), .second, .unset, .unset, .unset, .unset, .unset, .unset]) rfl kt) ?_
        exact goEq (by rw [show own_slow (own_x na) (own_x nb) = own_x nb from if_pos hlt]) kV
      · refine go (T' := T1019) (g' := (mkF m 97 #[.val (.long q1), .second, .val (.int p1), .val (.int p2), .val (.int p3), .val (.long k), .second, .val (.double (own_x na)), .second, .val (.double (own_x nb)), .second, .val (.ref bx), .val (.ref by_), .val (.double (own_x na)), .second, .unset, .unset, .unset, .unset, .unset, .unset] [])) (fun t kt => XS.ifYes X1019.here hx rfl (pc0 := 90) (pc' := 97) rfl (hb hby at_90) rfl ((if0 _ _).trans (flt hlt).2.1) (by decide) (by decide) kt) ?_
        exact goEq (by rw [show own_slow (own_x na) (own_x nb) = own_x na from if_neg hlt]) kV
    · obtain ⟨ns, hns, ens⟩ := own_picks hna hnb
      obtain ⟨m1, m2⟩ := own_mins (a := own_x na) (b := own_x nb) own_x_no own_x_no (own_x_nz hna) (own_x_nz hnb)
      refine goEq (g' := (mkF m 97 #[.val (.long q1), .second, .val (.int p1), .val (.int p2), .val (.int p3), .val (.long k), .second, .val (.double (own_x na)), .second, .val (.double (own_x nb)), .second, .val (.ref bx), .val (.ref by_), .val (.double (own_x ns)), .second, .unset, .unset, .unset, .unset, .unset, .unset] [])) (by rw [ens]) ?_
      refine go (T' := T1019) (g' := (mkF m 99 #[.val (.long q1), .second, .val (.int p1), .val (.int p2), .val (.int p3), .val (.long k), .second, .val (.double (own_x na)), .second, .val (.double (own_x nb)), .second, .val (.ref bx), .val (.ref by_), .val (.double (own_x ns)), .second, .unset, .unset, .unset, .unset, .unset, .unset] [(.long k)])) (fun t kt => XS.lload X1019.here hx rfl (hb hby at_97) rfl kt) ?_
      refine go (T' := T1019) (g' := (mkF m 100 #[.val (.long q1), .second, .val (.int p1), .val (.int p2), .val (.int p3), .val (.long k), .second, .val (.double (own_x na)), .second, .val (.double (own_x nb)), .second, .val (.ref bx), .val (.ref by_), .val (.double (own_x ns)), .second, .unset, .unset, .unset, .unset, .unset, .unset] [(.double (FP.l2d k))])) (fun t kt => XS.l2dS X1019.here hx rfl (hb hby at_99) rfl rfl kt) ?_
      refine go (T' := T1019) (g' := (mkF m 103 #[.val (.long q1), .second, .val (.int p1), .val (.int p2), .val (.int p3), .val (.long k), .second, .val (.double (own_x na)), .second, .val (.double (own_x nb)), .second, .val (.ref bx), .val (.ref by_), .val (.double (own_x ns)), .second, .unset, .unset, .unset, .unset, .unset, .unset] [(.double own_q8), (.double (FP.l2d k))])) (fun t kt => X1019.ldc2DoubleC hx hown1018 (mvT hZ1018 (hw _ (List.mem_of_getElem? (i := 34) rfl))) (g := (mkF m 100 #[.val (.long q1), .second, .val (.int p1), .val (.int p2), .val (.int p3), .val (.long k), .second, .val (.double (own_x na)), .second, .val (.double (own_x nb)), .second, .val (.ref bx), .val (.ref by_), .val (.double (own_x ns)), .second, .unset, .unset, .unset, .unset, .unset, .unset] [(.double (FP.l2d k))])) rfl (hb hby at_100) _ kt) ?_
      refine go (T' := T1019) (g' := (mkF m 104 #[.val (.long q1), .second, .val (.int p1), .val (.int p2), .val (.int p3), .val (.long k), .second, .val (.double (own_x na)), .second, .val (.double (own_x nb)), .second, .val (.ref bx), .val (.ref by_), .val (.double (own_x ns)), .second, .unset, .unset, .unset, .unset, .unset, .unset] [(.double (FP.dmul (FP.l2d k) own_q8))])) (fun t kt => XS.dmulS X1019.here hx rfl (hb hby at_103) rfl (own_n1 k) rfl kt) ?_
      refine go (T' := T1019) (g' := (mkF m 106 #[.val (.long q1), .second, .val (.int p1), .val (.int p2), .val (.int p3), .val (.long k), .second, .val (.double (own_x na)), .second, .val (.double (own_x nb)), .second, .val (.ref bx), .val (.ref by_), .val (.double (own_x ns)), .second, .unset, .unset, .unset, .unset, .unset, .unset] [(.double (own_x ns)), (.double (FP.dmul (FP.l2d k) own_q8))])) (fun t kt => XS.dload X1019.here hx rfl (hb hby at_104) rfl kt) ?_
      refine go (T' := T1019) (g' := (mkF m 109 #[.val (.long q1), .second, .val (.int p1), .val (.int p2), .val (.int p3), .val (.long k), .second, .val (.double (own_x na)), .second, .val (.double (own_x nb)), .second, .val (.ref bx), .val (.ref by_), .val (.double (own_x ns)), .second, .unset, .unset, .unset, .unset, .unset, .unset] [(.double own_q6), (.double (own_x ns)), (.double (FP.dmul (FP.l2d k) own_q8))])) (fun t kt => X1019.ldc2DoubleC hx hown1018 (mvT hZ1018 (hw _ (List.mem_of_getElem? (i := 35) rfl))) (g := (mkF m 106 #[.val (.long q1), .second, .val (.int p1), .val (.int p2), .val (.int p3), .val (.long k), .second, .val (.double (own_x na)), .second, .val (.double (own_x nb)), .second, .val (.ref bx), .val (.ref by_), .val (.double (own_x ns)), .second, .unset, .unset, .unset, .unset, .unset, .unset] [(.double (own_x ns)), (.double (FP.dmul (FP.l2d k) own_q8))])) rfl (hb hby at_106) _ kt) ?_
      refine go (T' := T1019) (g' := (mkF m 110 #[.val (.long q1), .second, .val (.int p1), .val (.int p2), .val (.int p3), .val (.long k), .second, .val (.double (own_x na)), .second, .val (.double (own_x nb)), .second, .val (.ref bx), .val (.ref by_), .val (.double (own_x ns)), .second, .unset, .unset, .unset, .unset, .unset, .unset] [(.double (FP.dmul (own_x ns) own_q6)), (.double (FP.dmul (FP.l2d k) own_q8))])) (fun t kt => XS.dmulS X1019.here hx rfl (hb hby at_109) rfl (own_n2 ns) rfl kt) ?_
      refine go (T' := T1019) (g' := (mkF m 111 #[.val (.long q1), .second, .val (.int p1), .val (.int p2), .val (.int p3), .val (.long k), .second, .val (.double (own_x na)), .second, .val (.double (own_x nb)), .second, .val (.ref bx), .val (.ref by_), .val (.double (own_x ns)), .second, .unset, .unset, .unset, .unset, .unset, .unset] [(.double (FP.ddiv (FP.dmul (FP.l2d k) own_q8) (FP.dmul (own_x ns) own_q6)))])) (fun t kt => XS.ddivS X1019.here hx rfl (hb hby at_110) rfl (own_n3 k hns) rfl kt) ?_
      refine goEq (g' := (mkF m 111 #[.val (.long q1), .second, .val (.int p1), .val (.int p2), .val (.int p3), .val (.long k), .second, .val (.double (own_x na)), .second, .val (.double (own_x nb)), .second, .val (.ref bx), .val (.ref by_), .val (.double (own_x ns)), .second, .unset, .unset, .unset, .unset, .unset, .unset] [(.double (own_f k (own_x ns)))])) (rfl) ?_
      refine go (T' := T1019) (g' := (mkF m 113 #[.val (.long q1), .second, .val (.int p1), .val (.int p2), .val (.int p3), .val (.long k), .second, .val (.double (own_x na)), .second, .val (.double (own_x nb)), .second, .val (.ref bx), .val (.ref by_), .val (.double (own_x ns)), .second, .val (.double (own_f k (own_x ns))), .second, .unset, .unset, .unset, .unset] [])) (fun t kt => XS.dstore X1019.here hx rfl (hb hby at_111) rfl (l' := #[.val (.long q1), .second, .val (.int p1), .val (.int p2), .val (.int p3), .val (.long k), .second, .val (.double (own_x na)), .second, .val (.double (own_x nb)), .second, .val (.ref bx), .val (.ref by_), .val (.double (own_x ns)), .second, .val (.double (own_f k (own_x ns))), .second, .unset, .unset, .unset, .unset]) rfl kt) ?_
      refine go (T' := T1019) (g' := (mkF m 115 #[.val (.long q1), .second, .val (.int p1), .val (.int p2), .val (.int p3), .val (.long k), .second, .val (.double (own_x na)), .second, .val (.double (own_x nb)), .second, .val (.ref bx), .val (.ref by_), .val (.double (own_x ns)), .second, .val (.double (own_f k (own_x ns))), .second, .unset, .unset, .unset, .unset] [(.ref bx)])) (fun t kt => XS.aload X1019.here hx rfl (hb hby at_113) rfl rfl kt) ?_
      refine go (T' := T1019) (g' := (mkF m 117 #[.val (.long q1), .second, .val (.int p1), .val (.int p2), .val (.int p3), .val (.long k), .second, .val (.double (own_x na)), .second, .val (.double (own_x nb)), .second, .val (.ref bx), .val (.ref by_), .val (.double (own_x ns)), .second, .val (.double (own_f k (own_x ns))), .second, .unset, .unset, .unset, .unset] [(.long k), (.ref bx)])) (fun t kt => XS.lload X1019.here hx rfl (hb hby at_115) rfl kt) ?_
      refine go (T' := T1019) (g' := (mkF m 119 #[.val (.long q1), .second, .val (.int p1), .val (.int p2), .val (.int p3), .val (.long k), .second, .val (.double (own_x na)), .second, .val (.double (own_x nb)), .second, .val (.ref bx), .val (.ref by_), .val (.double (own_x ns)), .second, .val (.double (own_f k (own_x ns))), .second, .unset, .unset, .unset, .unset] [(.ref by_), (.long k), (.ref bx)])) (fun t kt => XS.aload X1019.here hx rfl (hb hby at_117) rfl rfl kt) ?_
      obtain ⟨cq1020, kq1020, q1020a, q1020b, q1020c⟩ := isOf hZ1018 rfl fE_bx_1019
      obtain ⟨_, _, ⟨T1020, L1020, k1020, n1020⟩, -, X1020, ⟨Lc1020, hQ1020, l1020, y1020, z1020⟩, st1020⟩ := X1019.virtualBack hx (y := (⟨"com/example/tidemark/tidemark/VmType", "secondsToSend", "(JLcom/example/tidemark/tidemark/VmType;)D"⟩ : MethodName)) (z := (⟨"com/example/tidemark/tidemark/VmType", "secondsToSend", "(JLcom/example/tidemark/tidemark/VmType;)D"⟩ : MethodName)) hown1018 (mvT hZ1018 (hw _ (List.mem_of_getElem? (i := 36) rfl))) (mvT hZ1018 (hw _ (List.mem_of_getElem? (i := 37) rfl))) (notFace_of_selects (args := #[]) (mvT hZ1018 (hw _ (List.mem_of_getElem? (i := 39) rfl)))) (mvT hZ1018 (hw _ (List.mem_of_getElem? (i := 39) rfl))) (mvT hZ1018 (hw _ (List.mem_of_getElem? (i := 38) rfl))) (by decide) (backOf (W := 0) (rm3 l Z a0 hw [] bx k by_ na nb T1019.heap n0 z1019 hna hnb fF_bx_bandwidthMbps_1019 F1019a) hZ1018 (hw _ (List.mem_of_getElem? (i := 40) rfl)) (hw _ (List.mem_of_getElem? (i := 5) rfl)) (by decide) (by decide)) q1020a q1020c (g := (mkF m 119 #[.val (.long q1), .second, .val (.int p1), .val (.int p2), .val (.int p3), .val (.long k), .second, .val (.double (own_x na)), .second, .val (.double (own_x nb)), .second, .val (.ref bx), .val (.ref by_), .val (.double (own_x ns)), .second, .val (.double (own_f k (own_x ns))), .second, .unset, .unset, .unset, .unset] [(.ref by_), (.long k), (.ref bx)])) rfl (by rw [hml]; rfl) (Steps.refl _) (argsL := [(.long k), (.ref by_)]) (rest := []) (lenOf pd_3 rfl) rfl (by show 2 * 0 + _ ≤ _; exact Nat.le_of_eq rfl) (hb hby at_119) (fun _ _ => ⟨rfl, rfl, (by decide : 10 + 0 ≤ _), (by decide : 44 + 0 ≤ _)⟩)
      dsimp only [Pt.U, Pt.locs, Pt.cells, Pt.slots] at X1020 l1020 y1020 z1020 st1020 hQ1020
      subst l1020 y1020 z1020
      obtain ⟨rfl, N1020q, e1020⟩ := hQ1020
      have N1020 := Fr.app N1019 N1020q
      refine goV (T' := T1020) (g' := (mkF m 122 #[.val (.long q1), .second, .val (.int p1), .val (.int p2), .val (.int p3), .val (.long k), .second, .val (.double (own_x na)), .second, .val (.double (own_x nb)), .second, .val (.ref bx), .val (.ref by_), .val (.double (own_x ns)), .second, .val (.double (own_f k (own_x ns))), .second, .unset, .unset, .unset, .unset] [(.double (own_f k (own_min (own_x na) (own_x nb))))])) st1020 ?_
      refine goEq (g' := (mkF m 122 #[.val (.long q1), .second, .val (.int p1), .val (.int p2), .val (.int p3), .val (.long k), .second, .val (.double (own_x na)), .second, .val (.double (own_x nb)), .second, .val (.ref bx), .val (.ref by_), .val (.double (own_x ns)), .second, .val (.double (own_f k (own_x ns))), .second, .unset, .unset, .unset, .unset] [(.double (own_f k (own_x ns)))])) (by rw [m1, ens]) ?_
      refine go (T' := T1020) (g' := (mkF m 124 #[.val (.long q1), .second, .val (.int p1), .val (.int p2), .val (.int p3), .val (.long k), .second, .val (.double (own_x na)), .second, .val (.double (own_x nb)), .second, .val (.ref bx), .val (.ref by_), .val (.double (own_x ns)), .second, .val (.double (own_f k (own_x ns))), .second, .val (.double (own_f k (own_x ns))), .second, .unset, .unset] [])) (fun t kt => XS.dstore X1020.here hx rfl (hb hby at_122) rfl (l' := #[.val (.long q1), .second, .val (.int p1), .val (.int p2), .val (.int p3), .val (.long k), .second, .val (.double (own_x na)), .second, .val (.double (own_x nb)), .second, .val (.ref bx), .val (.ref by_), .val (.double (own_x ns)), .second, .val (.double (own_f k (own_x ns))), .second, .val (.double (own_f k (own_x ns))), .second, .unset, .unset]) rfl kt) ?_
      refine go (T' := T1020) (g' := (mkF m 126 #[.val (.long q1), .second, .val (.int p1), .val (.int p2), .val (.int p3), .val (.long k), .second, .val (.double (own_x na)), .second, .val (.double (own_x nb)), .second, .val (.ref bx), .val (.ref by_), .val (.double (own_x ns)), .second, .val (.double (own_f k (own_x ns))), .second, .val (.double (own_f k (own_x ns))), .second, .unset, .unset] [(.ref by_)])) (fun t kt => XS.aload X1020.here hx rfl (hb hby at_124) rfl rfl kt) ?_
      refine go (T' := T1020) (g' := (mkF m 128 #[.val (.long q1), .second, .val (.int p1), .val (.int p2), .val (.int p3), .val (.long k), .second, .val (.double (own_x na)), .second, .val (.double (own_x nb)), .second, .val (.ref bx), .val (.ref by_), .val (.double (own_x ns)), .second, .val (.double (own_f k (own_x ns))), .second, .val (.double (own_f k (own_x ns))), .second, .unset, .unset] [(.long k), (.ref by_)])) (fun t kt => XS.lload X1020.here hx rfl (hb hby at_126) rfl kt) ?_
      refine go (T' := T1020) (g' := (mkF m 130 #[.val (.long q1), .second, .val (.int p1), .val (.int p2), .val (.int p3), .val (.long k), .second, .val (.double (own_x na)), .second, .val (.double (own_x nb)), .second, .val (.ref bx), .val (.ref by_), .val (.double (own_x ns)), .second, .val (.double (own_f k (own_x ns))), .second, .val (.double (own_f k (own_x ns))), .second, .unset, .unset] [(.ref bx), (.long k), (.ref by_)])) (fun t kt => XS.aload X1020.here hx rfl (hb hby at_128) rfl rfl kt) ?_
      obtain ⟨cq1021, kq1021, q1021a, q1021b, q1021c⟩ := isOf hZ1018 e1020 fE_by__1019
      obtain ⟨_, _, ⟨T1021, L1021, k1021, n1021⟩, -, X1021, ⟨Lc1021, hQ1021, l1021, y1021, z1021⟩, st1021⟩ := X1020.virtualBack hx (y := (⟨"com/example/tidemark/tidemark/VmType", "secondsToSend", "(JLcom/example/tidemark/tidemark/VmType;)D"⟩ : MethodName)) (z := (⟨"com/example/tidemark/tidemark/VmType", "secondsToSend", "(JLcom/example/tidemark/tidemark/VmType;)D"⟩ : MethodName)) hown1018 (mvT hZ1018 (hw _ (List.mem_of_getElem? (i := 36) rfl))) (mvT hZ1018 (hw _ (List.mem_of_getElem? (i := 37) rfl))) (notFace_of_selects (args := #[]) (mvT hZ1018 (hw _ (List.mem_of_getElem? (i := 39) rfl)))) (mvT hZ1018 (hw _ (List.mem_of_getElem? (i := 39) rfl))) (mvT hZ1018 (hw _ (List.mem_of_getElem? (i := 38) rfl))) (by decide) (backOf (W := 0) (rm3 l Z a0 hw [] by_ k bx nb na T1019.heap n0 z1019 hnb hna F1019a fF_bx_bandwidthMbps_1019) hZ1018 (hw _ (List.mem_of_getElem? (i := 40) rfl)) (hw _ (List.mem_of_getElem? (i := 5) rfl)) (by decide) (by decide)) q1021a q1021c (g := (mkF m 130 #[.val (.long q1), .second, .val (.int p1), .val (.int p2), .val (.int p3), .val (.long k), .second, .val (.double (own_x na)), .second, .val (.double (own_x nb)), .second, .val (.ref bx), .val (.ref by_), .val (.double (own_x ns)), .second, .val (.double (own_f k (own_x ns))), .second, .val (.double (own_f k (own_x ns))), .second, .unset, .unset] [(.ref bx), (.long k), (.ref by_)])) rfl (by rw [hml]; rfl) (Steps.refl _) (argsL := [(.long k), (.ref bx)]) (rest := []) (lenOf pd_3 rfl) rfl (by show 2 * 0 + _ ≤ _; exact Nat.le_of_eq rfl) (hb hby at_130) (fun _ _ => ⟨rfl, e1020, (by decide : 10 + 0 ≤ _), (by decide : 44 + 0 ≤ _)⟩)
      dsimp only [Pt.U, Pt.locs, Pt.cells, Pt.slots] at X1021 l1021 y1021 z1021 st1021 hQ1021
      subst l1021 y1021 z1021
      obtain ⟨rfl, N1021q, e1021⟩ := hQ1021
      have N1021 := Fr.app N1020 N1021q
      refine goV (T' := T1021) (g' := (mkF m 133 #[.val (.long q1), .second, .val (.int p1), .val (.int p2), .val (.int p3), .val (.long k), .second, .val (.double (own_x na)), .second, .val (.double (own_x nb)), .second, .val (.ref bx), .val (.ref by_), .val (.double (own_x ns)), .second, .val (.double (own_f k (own_x ns))), .second, .val (.double (own_f k (own_x ns))), .second, .unset, .unset] [(.double (own_f k (own_min (own_x nb) (own_x na))))])) st1021 ?_
      refine goEq (g' := (mkF m 133 #[.val (.long q1), .second, .val (.int p1), .val (.int p2), .val (.int p3), .val (.long k), .second, .val (.double (own_x na)), .second, .val (.double (own_x nb)), .second, .val (.ref bx), .val (.ref by_), .val (.double (own_x ns)), .second, .val (.double (own_f k (own_x ns))), .second, .val (.double (own_f k (own_x ns))), .second, .unset, .unset] [(.double (own_f k (own_x ns)))])) (by rw [m2, ens]) ?_
      refine go (T' := T1021) (g' := (mkF m 135 #[.val (.long q1), .second, .val (.int p1), .val (.int p2), .val (.int p3), .val (.long k), .second, .val (.double (own_x na)), .second, .val (.double (own_x nb)), .second, .val (.ref bx), .val (.ref by_), .val (.double (own_x ns)), .second, .val (.double (own_f k (own_x ns))), .second, .val (.double (own_f k (own_x ns))), .second, .val (.double (own_f k (own_x ns))), .second] [])) (fun t kt => XS.dstore X1021.here hx rfl (hb hby at_133) rfl (l' := #[.val (.long q1), .second, .val (.int p1), .val (.int p2), .val (.int p3), .val (.long k), .second, .val (.double (own_x na)), .second, .val (.double (own_x nb)), .second, .val (.ref bx), .val (.ref by_), .val (.double (own_x ns)), .second, .val (.double (own_f k (own_x ns))), .second, .val (.double (own_f k (own_x ns))), .second, .val (.double (own_f k (own_x ns))), .second]) rfl kt) ?_
      refine go (T' := T1021) (g' := (mkF m 137 #[.val (.long q1), .second, .val (.int p1), .val (.int p2), .val (.int p3), .val (.long k), .second, .val (.double (own_x na)), .second, .val (.double (own_x nb)), .second, .val (.ref bx), .val (.ref by_), .val (.double (own_x ns)), .second, .val (.double (own_f k (own_x ns))), .second, .val (.double (own_f k (own_x ns))), .second, .val (.double (own_f k (own_x ns))), .second] [(.double (own_f k (own_x ns)))])) (fun t kt => XS.dload X1021.here hx rfl (hb hby at_135) rfl kt) ?_
      refine go (T' := T1021) (g' := (mkF m 139 #[.val (.long q1), .second, .val (.int p1), .val (.int p2), .val (.int p3), .val (.long k), .second, .val (.double (own_x na)), .second, .val (.double (own_x nb)), .second, .val (.ref bx), .val (.ref by_), .val (.double (own_x ns)), .second, .val (.double (own_f k (own_x ns))), .second, .val (.double (own_f k (own_x ns))), .second, .val (.double (own_f k (own_x ns))), .second] [(.double (own_f k (own_x ns))), (.double (own_f k (own_x ns)))])) (fun t kt => XS.dload X1021.here hx rfl (hb hby at_137) rfl kt) ?_
      refine go (T' := T1021) (g' := (mkF m 140 #[.val (.long q1), .second, .val (.int p1), .val (.int p2), .val (.int p3), .val (.long k), .second, .val (.double (own_x na)), .second, .val (.double (own_x nb)), .second, .val (.ref bx), .val (.ref by_), .val (.double (own_x ns)), .second, .val (.double (own_f k (own_x ns))), .second, .val (.double (own_f k (own_x ns))), .second, .val (.double (own_f k (own_x ns))), .second] [(.int (cmpValue (FP.dcmp (own_f k (own_x ns)) (own_f k (own_x ns))) .l))])) (fun t kt => XS.dcmpS X1021.here hx rfl (hb hby at_139) rfl rfl kt) ?_
      refine go (T' := T1021) (g' := (mkF m 143 #[.val (.long q1), .second, .val (.int p1), .val (.int p2), .val (.int p3), .val (.long k), .second, .val (.double (own_x na)), .second, .val (.double (own_x nb)), .second, .val (.ref bx), .val (.ref by_), .val (.double (own_x ns)), .second, .val (.double (own_f k (own_x ns))), .second, .val (.double (own_f k (own_x ns))), .second, .val (.double (own_f k (own_x ns))), .second] [])) (fun t kt => XS.ifNo X1021.here hx rfl (hb hby at_140) rfl ((if0 _ _).trans (teq (dcmpV_self (own_n3 k hns) .l)).2) kt) ?_
      refine go (T' := T1021) (g' := (mkF m 145 #[.val (.long q1), .second, .val (.int p1), .val (.int p2), .val (.int p3), .val (.long k), .second, .val (.double (own_x na)), .second, .val (.double (own_x nb)), .second, .val (.ref bx), .val (.ref by_), .val (.double (own_x ns)), .second, .val (.double (own_f k (own_x ns))), .second, .val (.double (own_f k (own_x ns))), .second, .val (.double (own_f k (own_x ns))), .second] [(.double (own_f k (own_x ns)))])) (fun t kt => XS.dload X1021.here hx rfl (hb hby at_143) rfl kt) ?_
      refine go (T' := T1021) (g' := (mkF m 147 #[.val (.long q1), .second, .val (.int p1), .val (.int p2), .val (.int p3), .val (.long k), .second, .val (.double (own_x na)), .second, .val (.double (own_x nb)), .second, .val (.ref bx), .val (.ref by_), .val (.double (own_x ns)), .second, .val (.double (own_f k (own_x ns))), .second, .val (.double (own_f k (own_x ns))), .second, .val (.double (own_f k (own_x ns))), .second] [(.double (own_f k (own_x ns))), (.double (own_f k (own_x ns)))])) (fun t kt => XS.dload X1021.here hx rfl (hb hby at_145) rfl kt) ?_
      refine go (T' := T1021) (g' := (mkF m 148 #[.val (.long q1), .second, .val (.int p1), .val (.int p2), .val (.int p3), .val (.long k), .second, .val (.double (own_x na)), .second, .val (.double (own_x nb)), .second, .val (.ref bx), .val (.ref by_), .val (.double (own_x ns)), .second, .val (.double (own_f k (own_x ns))), .second, .val (.double (own_f k (own_x ns))), .second, .val (.double (own_f k (own_x ns))), .second] [(.int (cmpValue (FP.dcmp (own_f k (own_x ns)) (own_f k (own_x ns))) .l))])) (fun t kt => XS.dcmpS X1021.here hx rfl (hb hby at_147) rfl rfl kt) ?_
      refine go (T' := T1021) (g' := (mkF m 151 #[.val (.long q1), .second, .val (.int p1), .val (.int p2), .val (.int p3), .val (.long k), .second, .val (.double (own_x na)), .second, .val (.double (own_x nb)), .second, .val (.ref bx), .val (.ref by_), .val (.double (own_x ns)), .second, .val (.double (own_f k (own_x ns))), .second, .val (.double (own_f k (own_x ns))), .second, .val (.double (own_f k (own_x ns))), .second] [])) (fun t kt => XS.ifNo X1021.here hx rfl (hb hby at_148) rfl ((if0 _ _).trans (teq (dcmpV_self (own_n3 k hns) .l)).2) kt) ?_
      refine go (T' := T1021) (g' := (mkF m 152 #[.val (.long q1), .second, .val (.int p1), .val (.int p2), .val (.int p3), .val (.long k), .second, .val (.double (own_x na)), .second, .val (.double (own_x nb)), .second, .val (.ref bx), .val (.ref by_), .val (.double (own_x ns)), .second, .val (.double (own_f k (own_x ns))), .second, .val (.double (own_f k (own_x ns))), .second, .val (.double (own_f k (own_x ns))), .second] [(.int (1 : Int32))])) (fun t kt => XS.iconst X1021.here hx rfl (hb hby at_151) kt) ?_
      refine go (T' := T1021) (g' := (mkF m 156 #[.val (.long q1), .second, .val (.int p1), .val (.int p2), .val (.int p3), .val (.long k), .second, .val (.double (own_x na)), .second, .val (.double (own_x nb)), .second, .val (.ref bx), .val (.ref by_), .val (.double (own_x ns)), .second, .val (.double (own_f k (own_x ns))), .second, .val (.double (own_f k (own_x ns))), .second, .val (.double (own_f k (own_x ns))), .second] [(.int (1 : Int32))])) (fun t kt => XS.goto X1021.here hx rfl (pc0 := 152) (pc' := 156) rfl (hb hby at_152) (by decide) (by decide) kt) ?_
      refine goRetNW X1021 hx hlk hS1018 (by rw [e1021]; exact y1019) (t := .boolean) Bd.returns (by simp) (hb hby at_156) ?_ (by decide) (by decide)
      rw [e1021]
      exact ⟨rfl, N1021⟩
set_option maxRecDepth 65536 in
set_option maxHeartbeats 40000000 in
theorem comes_1 {Post : Tables → Env → Array Value → State → Outcome → State → Prop} (hpost : ∀ tb e args s v u, (limb_1_1.after args s (.returned v) u = true ∧ limb_1_2.after args s (.returned v) u = true ∧ True) → ReturnedEndW s (.returned v) u (Jvm.fieldLocs frame_1_writes args s ++ Jvm.arrayLocs frame_1_arrays args s ++ Jvm.staticLocs frame_1_statics s) 24 3200 → Post tb e args s (.returned v) u) :
    ArmFor flags0 classFile x code maxLocals ret World_1 tables_1 room_1 Calls_1 rest_1 Pre_1 Post := by
  intro l hfl _ _ p e ha hc hk s m args below hf hA hF happ hP
  obtain ⟨hcalls, hrest, hpre⟩ := hP
  obtain ⟨-, -, -, hnamed, -, -, -, hat⟩ := (Spec.applies_iff hf).mp happ
  obtain ⟨hg, hn⟩ := and_e (Cond.before_iff.mp (show (Jvm.Cond.and given_1 narrow_1).before args s = true from hpre))
  obtain ⟨g2, g2'⟩ := and_e hg
  obtain ⟨g4, g4'⟩ := and_e g2'
  obtain ⟨g6, g6'⟩ := and_e g4'
  obtain ⟨g8, g8'⟩ := and_e g6'
  obtain ⟨w0, w1, w2, w3, rfl⟩ : ∃ w0 w1 w2 w3 : Value, args = #[w0, w1, w2, w3] := by
    have hs : args.size = 4 := by simpa [Cond.value, given_1] using g2
    obtain ⟨L⟩ := args
    match L, hs with
    | [w0, w1, w2, w3], _ => exact ⟨w0, w1, w2, w3, rfl⟩
  have hw := fun d (hd : d ∈ tables_1) => atoms_spec (ws := Jvm.Cond.code x code maxLocals ret :: tables_1) hat d (List.mem_cons_of_mem _ hd)
  have hfit : Fit s := fun {y c} hc i hi => by
    obtain ⟨ha, rfl⟩ := Array.getElem?_eq_some_iff.mp hc
    have q := List.all_eq_true.mp ((Array.all_eq_true_iff_forall_mem.mp hF) _ (Array.getElem_mem ha)) i (List.mem_range.mpr hi)
    simpa [Array.getElem?_eq_getElem hi] using q
  obtain ⟨i0, ei0⟩ := isL_v g4
  obtain rfl : w0 = (.long i0) := Option.some.inj ei0
  obtain ⟨i1, ei1⟩ := is_v g6
  obtain rfl : w1 = (.int i1) := Option.some.inj ei1
  obtain ⟨i2, ei2⟩ := is_v g8
  obtain rfl : w2 = (.int i2) := Option.some.inj ei2
  obtain ⟨i3, ei3⟩ := is_v g8'
  obtain rfl : w3 = (.int i3) := Option.some.inj ei3
  obtain ⟨n, o, h1, h2, h3, _, L, rfl, ⟨rfl, N⟩, hq⟩ := rm0 l s _ hw tables_1 i0 i1 i2 i3 s.heap s.heap.size (Nat.le_refl _) p e ha hc hk s m _ below hf ((Spec.applies_iff_loose hf).mp happ).1 ⟨rfl, State.Warmed39.refl s, rfl⟩ trivial
  refine ⟨n, _, h1, h2, h3, hpost _ _ _ _ _ _ ⟨Cond.after_iff.mpr rfl, Cond.after_iff.mpr (eq_i res_at (Term.int_eval (1)) rfl), trivial⟩ ⟨hq.1, hq.2.1, hq.2.2.1, (hq.2.2.2.sift fun y hy => Or.inr (N y hy)).mono (by decide) (by decide)⟩⟩
theorem main_1_1 : Claimed_1_1 := comes_1 fun _ _ _ _ _ _ h hF => ⟨h.1, hF⟩
theorem main_1_2 : Claimed_1_2 := comes_1 fun _ _ _ _ _ _ h hF => ⟨h.2.1, hF⟩
end Jvm.Pilot.@@N@@
namespace Jvm.Pilot.@@N@@
open Jvm Jvm.ClassFile Sem Op Lib Jvm.Free Jvm.Stand Jvm.Pilot.@@N@@.Jvm.D
/-! MADE BY PROGRAM (witnessworld.py) out of the Statement's table words and the real class files: 15 classes; the members and pool entries that the words name. The judged class is class 1, her method 1. -/
namespace start1
open Jvm.ClassFile
def u (s : String) : CpInfo := .utf8 (stringToUtf16 s)
/-- a pool by its gaps: so many unusable entries, then the entry; so many at the end -/
def gap : Nat → List CpInfo → List CpInfo
  | 0, r => r
  | n + 1, r => .unusable :: gap n r
def poolList (es : List (Nat × CpInfo)) (last : Nat) : List CpInfo := es.foldr (fun e r => gap e.1 (e.2 :: r)) (gap last [])
def pool (es : List (Nat × CpInfo)) (last : Nat) : Array CpInfo := ⟨poolList es last⟩
def fileOf (pool : Array CpInfo) (this : Nat) (attrs : Array Attribute := #[]) (ms : Array MethodInfo := #[]) (fl : Nat := 33) (sup : Nat := 0) (ifs : Array Nat := #[]) (fds : Array FieldInfo := #[]) : ClassFile where
  minorVersion := 0
  majorVersion := 65
  constantPool := pool
  accessFlags := fl
  thisClass := this
  superClass := sup
  interfaces := ifs
  fields := fds
  methods := ms
  attributes := attrs
def plain (name : String) (sup : Option ClassId) : Class where
  name := name
  kind := .ordinary
  loader := none
  accessFlags := 33
  super := sup
  interfaces := #[]
  cf := none
  fields := #[]
  methods := #[]
  instanceTypes := #[]
  staticTypes := #[]
  resolved := #[]
  callSites := []
  init := .initialized
  statics := none
  mirror := none

def pool0 : Array CpInfo := pool [(5, u "<init>"), (0, u "()V"), (1, .class_ 10), (1, u "java/lang/Object")] 113

def k0c0 : Code := { maxStack := 0, maxLocals := 1, code := object_method_1_code, exceptionTable := #[], attributes := #[] }
def k0m0 : Method := { name := "<init>", desc := "()V", sig := { parameters := [], returnType := none }, accessFlags := 1, code := some k0c0 }
/-- java/lang/Object -/
def k0 : Class := { plain "java/lang/Object" none with
  accessFlags := 33
  interfaces := #[]
  cf := some (fileOf pool0 8 #[] #[{ accessFlags := 1, nameIndex := 5, descriptorIndex := 6, attributes := #[] }] 33 0 #[] #[])
  fields := #[]
  methods := #[k0m0]
  instanceTypes := #[]
  staticTypes := #[]
  resolved := Array.replicate 124 none
  statics := none }

def pool1 : Array CpInfo := pool [(2, .class_ 4), (1, u "java/lang/Object"), (0, u "<init>"), (0, u "()V"), (2, .long 9223372036854775807), (1, .integer 65535), (0, .double 4616189618054758400), (1, .class_ 15), (0, u "com/example/tidemark/tidemark/VmType"), (0, .string 17), (0, u "x"), (0, .string 19), (0, u "f"), (0, .methodref 14 21), (0, .nameAndType 5 22), (0, u "(Ljava/lang/String;Ljava/lang/String;IDDD)V"), (0, .string 24), (0, u "y"), (0, .double 4620693217682128896), (1, .double 4696837146684686336), (1, .methodref 14 30), (0, .nameAndType 31 32), (0, u "secondsToSend"), (0, u "(JLcom/example/tidemark/tidemark/VmType;)D"), (0, .class_ 34), (0, u "com/example/tidemark/tidemark/VmTypeSecondsToSendPinLaw"), (2, u "law"), (0, u "(JIII)Z")] 3

def k1m0 : Method := { name := "<init>", desc := "()V", sig := { parameters := [], returnType := none }, accessFlags := 1, code := none }
def k1c1 : Code := { maxStack := 11, maxLocals := 21, code := code, exceptionTable := #[], attributes := #[] }
def k1m1 : Method := { name := "law", desc := "(JIII)Z", sig := { parameters := [.long, .int, .int, .int], returnType := some .boolean }, accessFlags := 9, code := some k1c1 }
/-- com/example/tidemark/tidemark/VmTypeSecondsToSendPinLaw -/
def k1 : Class := { plain "com/example/tidemark/tidemark/VmTypeSecondsToSendPinLaw" (some 0) with
  accessFlags := 49
  interfaces := #[]
  cf := some (fileOf pool1 33 #[] #[{ accessFlags := 1, nameIndex := 5, descriptorIndex := 6, attributes := #[] }, { accessFlags := 9, nameIndex := 37, descriptorIndex := 38, attributes := #[] }] 49 2 #[] #[])
  fields := #[]
  methods := #[k1m0, k1m1]
  instanceTypes := #[]
  staticTypes := #[]
  resolved := Array.replicate 42 none
  statics := none }

def pool2 : Array CpInfo := pool [(1, .methodref 2 3), (0, .class_ 4), (0, .nameAndType 5 6), (0, u "java/lang/Object"), (0, u "<init>"), (0, u "()V"), (0, .fieldref 8 9), (0, .class_ 10), (0, .nameAndType 11 12), (0, u "com/example/tidemark/tidemark/VmType"), (0, u "name"), (0, u "Ljava/lang/String;"), (0, .fieldref 8 14), (0, .nameAndType 15 12), (0, u "family"), (0, .fieldref 8 17), (0, .nameAndType 18 19), (0, u "vcpus"), (0, u "I"), (0, .fieldref 8 21), (0, .nameAndType 22 23), (0, u "bandwidthMbps"), (0, u "D"), (0, .fieldref 8 25), (0, .nameAndType 26 23), (0, u "pricePerHour"), (0, .fieldref 8 28), (0, .nameAndType 29 23), (0, u "speedFactor"), (2, .methodref 33 34), (0, .class_ 35), (0, .nameAndType 36 37), (0, u "java/lang/Math"), (0, u "min"), (0, u "(DD)D"), (0, .methodref 8 39), (0, .nameAndType 40 41), (0, u "secondsToSend"), (0, u "(JD)D"), (0, .double 4620693217682128896), (1, .double 4696837146684686336), (1, u "(Ljava/lang/String;Ljava/lang/String;IDDD)V"), (7, u "(JLcom/example/tidemark/tidemark/VmType;)D")] 2

def k2c0 : Code := { maxStack := 3, maxLocals := 10, code := prog_12_method_1_code, exceptionTable := #[], attributes := #[] }
def k2m0 : Method := { name := "<init>", desc := "(Ljava/lang/String;Ljava/lang/String;IDDD)V", sig := { parameters := [(.object "java/lang/String"), (.object "java/lang/String"), .int, .double, .double, .double], returnType := none }, accessFlags := 0, code := some k2c0 }
def k2c1 : Code := { maxStack := 6, maxLocals := 4, code := prog_12_method_9_code, exceptionTable := #[], attributes := #[] }
def k2m1 : Method := { name := "secondsToSend", desc := "(JLcom/example/tidemark/tidemark/VmType;)D", sig := { parameters := [.long, (.object "com/example/tidemark/tidemark/VmType")], returnType := some .double }, accessFlags := 1, code := some k2c1 }
def k2c2 : Code := { maxStack := 6, maxLocals := 4, code := prog_12_method_10_code, exceptionTable := #[], attributes := #[] }
def k2m2 : Method := { name := "secondsToSend", desc := "(JD)D", sig := { parameters := [.long, .double], returnType := some .double }, accessFlags := 8, code := some k2c2 }
/-- com/example/tidemark/tidemark/VmType -/
def k2 : Class := { plain "com/example/tidemark/tidemark/VmType" (some 0) with
  accessFlags := 49
  interfaces := #[]
  cf := some (fileOf pool2 8 #[] #[{ accessFlags := 0, nameIndex := 5, descriptorIndex := 46, attributes := #[] }, { accessFlags := 1, nameIndex := 40, descriptorIndex := 54, attributes := #[] }, { accessFlags := 8, nameIndex := 40, descriptorIndex := 41, attributes := #[] }] 49 2 #[] #[{ accessFlags := 18, nameIndex := 11, descriptorIndex := 12, attributes := #[] }, { accessFlags := 18, nameIndex := 15, descriptorIndex := 12, attributes := #[] }, { accessFlags := 18, nameIndex := 18, descriptorIndex := 19, attributes := #[] }, { accessFlags := 18, nameIndex := 22, descriptorIndex := 23, attributes := #[] }, { accessFlags := 18, nameIndex := 26, descriptorIndex := 23, attributes := #[] }, { accessFlags := 18, nameIndex := 29, descriptorIndex := 23, attributes := #[] }])
  fields := #[{ name := "name", type := (.object "java/lang/String"), accessFlags := 18, slot := 0, constantValue := 0 }, { name := "family", type := (.object "java/lang/String"), accessFlags := 18, slot := 1, constantValue := 0 }, { name := "vcpus", type := .int, accessFlags := 18, slot := 2, constantValue := 0 }, { name := "bandwidthMbps", type := .double, accessFlags := 18, slot := 3, constantValue := 0 }, { name := "pricePerHour", type := .double, accessFlags := 18, slot := 4, constantValue := 0 }, { name := "speedFactor", type := .double, accessFlags := 18, slot := 5, constantValue := 0 }]
  methods := #[k2m0, k2m1, k2m2]
  instanceTypes := #[(.object "java/lang/String"), (.object "java/lang/String"), .int, .double, .double, .double]
  staticTypes := #[]
  resolved := Array.replicate 57 none
  statics := none }

def pool3 : Array CpInfo := pool [(1, .class_ 2), (0, u "java/io/Serializable"), (0, .class_ 4), (0, u "java/lang/Object")] 2

/-- java/io/Serializable -/
def k3 : Class := { plain "java/io/Serializable" (some 0) with
  accessFlags := 1537
  interfaces := #[]
  cf := some (fileOf pool3 1 #[] #[] 1537 3 #[] #[])
  fields := #[]
  methods := #[]
  instanceTypes := #[]
  staticTypes := #[]
  resolved := Array.replicate 7 none
  statics := none }

def pool4 : Array CpInfo := pool [(1, .class_ 2), (0, u "java/lang/Comparable"), (0, .class_ 4), (0, u "java/lang/Object")] 7

/-- java/lang/Comparable -/
def k4 : Class := { plain "java/lang/Comparable" (some 0) with
  accessFlags := 1537
  interfaces := #[]
  cf := some (fileOf pool4 1 #[] #[] 1537 3 #[] #[])
  fields := #[]
  methods := #[]
  instanceTypes := #[]
  staticTypes := #[]
  resolved := Array.replicate 12 none
  statics := none }

def pool5 : Array CpInfo := pool [(2, .class_ 4), (1, u "java/lang/CharSequence"), (42, .class_ 48), (0, u "java/lang/CharSequence$1CodePointIterator"), (10, .class_ 60), (0, u "java/lang/CharSequence$1CharIterator"), (5, .class_ 67), (0, u "java/lang/Object")] 63

/-- java/lang/CharSequence -/
def k5 : Class := { plain "java/lang/CharSequence" (some 0) with
  accessFlags := 1537
  interfaces := #[]
  cf := some (fileOf pool5 2 #[.nestMembers #[47, 59]] #[] 1537 66 #[] #[])
  fields := #[]
  methods := #[]
  instanceTypes := #[]
  staticTypes := #[]
  resolved := Array.replicate 131 none
  statics := none }

def pool6 : Array CpInfo := pool [(1, .class_ 2), (0, u "java/lang/constant/Constable"), (0, .class_ 4), (0, u "java/lang/Object")] 6

/-- java/lang/constant/Constable -/
def k6 : Class := { plain "java/lang/constant/Constable" (some 0) with
  accessFlags := 1537
  interfaces := #[]
  cf := some (fileOf pool6 1 #[] #[] 1537 3 #[] #[])
  fields := #[]
  methods := #[]
  instanceTypes := #[]
  staticTypes := #[]
  resolved := Array.replicate 11 none
  statics := none }

def pool7 : Array CpInfo := pool [(1, .class_ 2), (0, u "java/lang/constant/ConstantDesc"), (0, .class_ 4), (0, u "java/lang/Object")] 32

/-- java/lang/constant/ConstantDesc -/
def k7 : Class := { plain "java/lang/constant/ConstantDesc" (some 0) with
  accessFlags := 1537
  interfaces := #[]
  cf := some (fileOf pool7 1 #[] #[] 1537 3 #[] #[])
  fields := #[]
  methods := #[]
  instanceTypes := #[]
  staticTypes := #[]
  resolved := Array.replicate 37 none
  statics := none }

def pool8 : Array CpInfo := pool [(2, .class_ 4), (1, u "java/lang/Object"), (0, u "<init>"), (0, u "()V"), (3, .class_ 12), (1, u "java/lang/String"), (0, u "value"), (0, u "[B"), (2, u "coder"), (0, u "B"), (2, u "hash"), (0, u "I"), (2, u "hashIsZero"), (0, u "Z"), (13, u "COMPACT_STRINGS"), (534, .class_ 576), (0, u "java/lang/CharSequence"), (22, u "CASE_INSENSITIVE_ORDER"), (0, u "Ljava/util/Comparator;"), (500, u "serialPersistentFields"), (0, u "[Ljava/io/ObjectStreamField;"), (0, .class_ 1104), (0, u "java/lang/String$CaseInsensitiveComparator"), (1, .class_ 1107), (0, u "java/io/Serializable"), (0, .class_ 1109), (0, u "java/lang/Comparable"), (0, .class_ 1111), (0, u "java/lang/constant/Constable"), (0, .class_ 1113), (0, u "java/lang/constant/ConstantDesc"), (2, u "serialVersionUID"), (0, u "J"), (3, u "REPL"), (0, u "C"), (2, u "LATIN1"), (1, u "UTF16")] 323

def k8m0 : Method := { name := "<init>", desc := "()V", sig := { parameters := [], returnType := none }, accessFlags := 1, code := none }
/-- java/lang/String -/
def k8 : Class := { plain "java/lang/String" (some 0) with
  accessFlags := 49
  interfaces := #[3, 4, 5, 6, 7]
  cf := some (fileOf pool8 10 #[.nestMembers #[1103]] #[{ accessFlags := 1, nameIndex := 5, descriptorIndex := 6, attributes := #[] }] 49 2 #[1106, 1108, 575, 1110, 1112] #[{ accessFlags := 18, nameIndex := 13, descriptorIndex := 14, attributes := #[] }, { accessFlags := 18, nameIndex := 17, descriptorIndex := 18, attributes := #[] }, { accessFlags := 2, nameIndex := 21, descriptorIndex := 22, attributes := #[] }, { accessFlags := 2, nameIndex := 25, descriptorIndex := 26, attributes := #[] }, { accessFlags := 26, nameIndex := 1116, descriptorIndex := 1117, attributes := #[] }, { accessFlags := 24, nameIndex := 40, descriptorIndex := 26, attributes := #[] }, { accessFlags := 26, nameIndex := 1101, descriptorIndex := 1102, attributes := #[] }, { accessFlags := 26, nameIndex := 1121, descriptorIndex := 1122, attributes := #[] }, { accessFlags := 25, nameIndex := 599, descriptorIndex := 600, attributes := #[] }, { accessFlags := 24, nameIndex := 1125, descriptorIndex := 18, attributes := #[] }, { accessFlags := 24, nameIndex := 1127, descriptorIndex := 18, attributes := #[] }])
  fields := #[{ name := "value", type := (.array .byte), accessFlags := 18, slot := 0, constantValue := 0 }, { name := "coder", type := .byte, accessFlags := 18, slot := 1, constantValue := 0 }, { name := "hash", type := .int, accessFlags := 2, slot := 2, constantValue := 0 }, { name := "hashIsZero", type := .boolean, accessFlags := 2, slot := 3, constantValue := 0 }, { name := "serialVersionUID", type := .long, accessFlags := 26, slot := 0, constantValue := 0 }, { name := "COMPACT_STRINGS", type := .boolean, accessFlags := 24, slot := 1, constantValue := 0 }, { name := "serialPersistentFields", type := (.array (.object "java/io/ObjectStreamField")), accessFlags := 26, slot := 2, constantValue := 0 }, { name := "REPL", type := .char, accessFlags := 26, slot := 3, constantValue := 0 }, { name := "CASE_INSENSITIVE_ORDER", type := (.object "java/util/Comparator"), accessFlags := 25, slot := 4, constantValue := 0 }, { name := "LATIN1", type := .byte, accessFlags := 24, slot := 5, constantValue := 0 }, { name := "UTF16", type := .byte, accessFlags := 24, slot := 6, constantValue := 0 }]
  methods := #[k8m0]
  instanceTypes := #[(.array .byte), .byte, .int, .boolean]
  staticTypes := #[.long, .boolean, (.array (.object "java/io/ObjectStreamField")), .char, (.object "java/util/Comparator"), .byte, .byte]
  resolved := Array.replicate 1451 none
  statics := none }

def pool9 : Array CpInfo := pool [(1, .class_ 2), (0, u "java/lang/Math"), (1, .class_ 6), (1, u "java/lang/Object"), (0, u "<init>"), (0, u "()V"), (43, u "(DD)D"), (45, .class_ 100), (1, u "java/lang/Math$RandomNumberGeneratorHolder"), (71, u "negativeZeroFloatBits"), (0, u "J"), (2, u "negativeZeroDoubleBits"), (24, u "min"), (43, u "$assertionsDisabled"), (0, u "Z"), (91, u "twoToTheDoubleScaleDown"), (0, u "D"), (4, u "twoToTheDoubleScaleUp"), (9, u "E"), (3, u "PI"), (2, u "TAU"), (2, u "DEGREES_TO_RADIANS"), (0, u "RADIANS_TO_DEGREES")] 94

def k9m0 : Method := { name := "<init>", desc := "()V", sig := { parameters := [], returnType := none }, accessFlags := 2, code := none }
def k9c1 : Code := { maxStack := 4, maxLocals := 4, code := jdk_29_method_72_code, exceptionTable := #[], attributes := #[] }
def k9m1 : Method := { name := "min", desc := "(DD)D", sig := { parameters := [.double, .double], returnType := some .double }, accessFlags := 9, code := some k9c1 }
/-- java/lang/Math -/
def k9 : Class := { plain "java/lang/Math" (some 0) with
  accessFlags := 49
  interfaces := #[]
  cf := some (fileOf pool9 1 #[.nestMembers #[98]] #[{ accessFlags := 2, nameIndex := 7, descriptorIndex := 8, attributes := #[] }, { accessFlags := 9, nameIndex := 201, descriptorIndex := 52, attributes := #[] }] 49 4 #[] #[{ accessFlags := 25, nameIndex := 354, descriptorIndex := 339, attributes := #[] }, { accessFlags := 25, nameIndex := 358, descriptorIndex := 339, attributes := #[] }, { accessFlags := 25, nameIndex := 361, descriptorIndex := 339, attributes := #[] }, { accessFlags := 26, nameIndex := 364, descriptorIndex := 339, attributes := #[] }, { accessFlags := 26, nameIndex := 365, descriptorIndex := 339, attributes := #[] }, { accessFlags := 26, nameIndex := 172, descriptorIndex := 173, attributes := #[] }, { accessFlags := 26, nameIndex := 176, descriptorIndex := 173, attributes := #[] }, { accessFlags := 8, nameIndex := 344, descriptorIndex := 339, attributes := #[] }, { accessFlags := 8, nameIndex := 338, descriptorIndex := 339, attributes := #[] }, { accessFlags := 4120, nameIndex := 245, descriptorIndex := 246, attributes := #[] }])
  fields := #[{ name := "E", type := .double, accessFlags := 25, slot := 0, constantValue := 0 }, { name := "PI", type := .double, accessFlags := 25, slot := 1, constantValue := 0 }, { name := "TAU", type := .double, accessFlags := 25, slot := 2, constantValue := 0 }, { name := "DEGREES_TO_RADIANS", type := .double, accessFlags := 26, slot := 3, constantValue := 0 }, { name := "RADIANS_TO_DEGREES", type := .double, accessFlags := 26, slot := 4, constantValue := 0 }, { name := "negativeZeroFloatBits", type := .long, accessFlags := 26, slot := 5, constantValue := 0 }, { name := "negativeZeroDoubleBits", type := .long, accessFlags := 26, slot := 6, constantValue := 0 }, { name := "twoToTheDoubleScaleUp", type := .double, accessFlags := 8, slot := 7, constantValue := 0 }, { name := "twoToTheDoubleScaleDown", type := .double, accessFlags := 8, slot := 8, constantValue := 0 }, { name := "$assertionsDisabled", type := .boolean, accessFlags := 4120, slot := 9, constantValue := 0 }]
  methods := #[k9m0, k9m1]
  instanceTypes := #[]
  staticTypes := #[.double, .double, .double, .double, .double, .long, .long, .double, .double, .boolean]
  resolved := Array.replicate 460 none
  statics := none }

def pool10 : Array CpInfo := pool [(1, u "java/lang/Cloneable"), (0, .class_ 1), (0, u "java/lang/Object"), (0, .class_ 3)] 3

/-- java/lang/Cloneable -/
def k10 : Class := { plain "java/lang/Cloneable" (some 0) with
  accessFlags := 1537
  interfaces := #[]
  cf := some (fileOf pool10 2 #[] #[] 1537 4 #[] #[])
  fields := #[]
  methods := #[]
  instanceTypes := #[]
  staticTypes := #[]
  resolved := Array.replicate 8 none
  statics := none }

/-- the primitive byte -/
def k11 : Class := { plain "byte" none with kind := .primitive 'B', accessFlags := 0x411 }
/-- [B -/
def k12 : Class := { plain "[B" (some 0) with kind := .array 11 .byte, interfaces := #[10, 3], accessFlags := 1041 }

/-- the primitive int -/
def k13 : Class := { plain "int" none with kind := .primitive 'I', accessFlags := 0x411 }
/-- [I -/
def k14 : Class := { plain "[I" (some 0) with kind := .array 13 .int, interfaces := #[10, 3], accessFlags := 1041 }

def heap : Heap := #[]
def classes : Array Class := #[k0, k1, k2, k3, k4, k5, k6, k7, k8, k9, k10, k11, k12, k13, k14]
def interned : List (Array UInt16 × Addr) := []
def slotsUsed : Nat := 0
def theMethod : MethodId := ⟨1, 1⟩
def args0 : Array Value := #[.long 5, .int 3, .int 4, .int 1]
def aboutOver (below : List Frame) : State where
  vm := { classes := classes, interned := interned.toArray }
  heap := heap
  slotsUsed := slotsUsed
  threads := #[{ frames := .invoking theMethod args0 :: below }]
def below0 : List Frame := [.native { method := ⟨0, 0⟩, args := #[] }]
def about1 : State := aboutOver below0
def p0 : Program := .bare "" "" ""
def e0 : Env := launch0.env 0 0 0
theorem w_frames : about1.frames = Frame.invoking theMethod args0 :: below0 := rfl
set_option maxRecDepth 65536 in
theorem w_args : argsFit about1.vm theMethod args0 = true := by decide +kernel
set_option maxRecDepth 65536 in
theorem w_heap : heapFits about1 = true := by decide +kernel
set_option maxRecDepth 65536 in
theorem w_runnable : about1.curStatus? = some .runnable := by decide +kernel
set_option maxRecDepth 65536 in
theorem w_alone : about1.alone = true := by decide +kernel
set_option maxRecDepth 65536 in
theorem w_named : about1.methodNamed? x = some theMethod := by decide +kernel
set_option maxRecDepth 65536 in
theorem w_hears : about1.hears theMethod below0 = true := by decide +kernel
set_option maxRecDepth 65536 in
theorem w_ripe : about1.ripe theMethod args0 below0 = true := by decide +kernel
theorem w_running : about1.status = .running := rfl
set_option maxRecDepth 65536 in
theorem w_room : about1.hasRoom e0.platform room_1 = true :=
  launch0.hasRoom_least _ room_1 (by decide +kernel) (by decide +kernel) (by decide +kernel) (by decide +kernel) (by decide +kernel) (by decide +kernel)
theorem allAtoms_all (ts : List Jvm.Cond) (a : Array Jvm.Value) (st : Jvm.State) : (allAtoms ts).before a st = ts.all (fun c => c.before a st) := by
  induction ts with
  | nil => rfl
  | cons c t ih =>
    show (Jvm.Cond.and c (allAtoms t)).before a st = _
    rw [Jvm.Cond.before_and, ih, List.all_cons]
def words1 : List Jvm.Cond := Jvm.Cond.code x code maxLocals ret :: tables_1
/-- a 'code' word, met by the world's own term for the bytes: nothing is compared byte by byte -/
theorem code_word {y : MethodName} {bytes : ByteArray} {mx : Nat} {rt : Option FieldType} {a : Array Value} {s : State} {m : MethodId} {meth : Method} {c : Code} (h1 : s.methodNamed? y = some m) (h2 : s.vm.method? m = some meth) (h3 : meth.code = some c) (h4 : c.code = bytes)
    (h5 : (c.maxLocals == mx && c.exceptionTable.isEmpty && decide (c.maxStack ≤ mostOperands) && decide (meth.sig.returnType = rt) && !meth.locks && decide (parseMethodDescriptor y.desc = some meth.sig)) = true) : (Jvm.Cond.code y bytes mx rt).before a s = true := by
  simp only [Bool.and_eq_true, beq_iff_eq, Bool.not_eq_true', decide_eq_true_eq] at h5
  obtain ⟨⟨⟨⟨⟨g1, g2⟩, g3⟩, g4⟩, g5⟩, g6⟩ := h5
  simp [Cond.before, Cond.holds, Cond.value, h1, h2, h3, h4, g1, g2, g3, g4, g5, g6]
def isCode : Jvm.Cond → Bool
  | .code _ _ _ _ => true
  | _ => false
theorem all_split {L : List Jvm.Cond} {P : Jvm.Cond → Bool} (h1 : L.all (fun c => isCode c || P c) = true) (h2 : ∀ c ∈ L.filter isCode, P c = true) : L.all P = true := by
  refine List.all_eq_true.mpr fun c hc => ?_
  have h := List.all_eq_true.mp h1 c hc
  rcases Bool.eq_false_or_eq_true (isCode c) with hi | hi
  · exact h2 c (List.mem_filter.mpr ⟨hc, hi⟩)
  · simpa [hi] using h
set_option maxRecDepth 65536 in
theorem w_c0 : (Jvm.Cond.code x code maxLocals ret).before args0 about1 = true := code_word (m := ⟨1, 1⟩) (meth := k1m1) (c := k1c1) (by decide +kernel) rfl rfl rfl (by decide +kernel)
set_option maxRecDepth 65536 in
theorem w_c1 : (Jvm.Cond.code ({ cls := "com/example/tidemark/tidemark/VmType", name := "<init>", desc := "(Ljava/lang/String;Ljava/lang/String;IDDD)V" } : Jvm.MethodName) prog_12_method_1_code (10 : Nat) (Option.none : Option Jvm.ClassFile.FieldType)).before args0 about1 = true := code_word (m := ⟨2, 0⟩) (meth := k2m0) (c := k2c0) (by decide +kernel) rfl rfl rfl (by decide +kernel)
set_option maxRecDepth 65536 in
theorem w_c2 : (Jvm.Cond.code ({ cls := "java/lang/Object", name := "<init>", desc := "()V" } : Jvm.MethodName) object_method_1_code (1 : Nat) (Option.none : Option Jvm.ClassFile.FieldType)).before args0 about1 = true := code_word (m := ⟨0, 0⟩) (meth := k0m0) (c := k0c0) (by decide +kernel) rfl rfl rfl (by decide +kernel)
set_option maxRecDepth 65536 in
theorem w_c3 : (Jvm.Cond.code ({ cls := "com/example/tidemark/tidemark/VmType", name := "secondsToSend", desc := "(JLcom/example/tidemark/tidemark/VmType;)D" } : Jvm.MethodName) prog_12_method_9_code (4 : Nat) (Option.some Jvm.ClassFile.FieldType.double)).before args0 about1 = true := code_word (m := ⟨2, 1⟩) (meth := k2m1) (c := k2c1) (by decide +kernel) rfl rfl rfl (by decide +kernel)
set_option maxRecDepth 65536 in
theorem w_c4 : (Jvm.Cond.code ({ cls := "java/lang/Math", name := "min", desc := "(DD)D" } : Jvm.MethodName) jdk_29_method_72_code (4 : Nat) (Option.some Jvm.ClassFile.FieldType.double)).before args0 about1 = true := code_word (m := ⟨9, 1⟩) (meth := k9m1) (c := k9c1) (by decide +kernel) rfl rfl rfl (by decide +kernel)
set_option maxRecDepth 65536 in
theorem w_c5 : (Jvm.Cond.code ({ cls := "com/example/tidemark/tidemark/VmType", name := "secondsToSend", desc := "(JD)D" } : Jvm.MethodName) prog_12_method_10_code (4 : Nat) (Option.some Jvm.ClassFile.FieldType.double)).before args0 about1 = true := code_word (m := ⟨2, 2⟩) (meth := k2m2) (c := k2c2) (by decide +kernel) rfl rfl rfl (by decide +kernel)
def codes1 : List Jvm.Cond := [Jvm.Cond.code x code maxLocals ret, Jvm.Cond.code ({ cls := "com/example/tidemark/tidemark/VmType", name := "<init>", desc := "(Ljava/lang/String;Ljava/lang/String;IDDD)V" } : Jvm.MethodName) prog_12_method_1_code (10 : Nat) (Option.none : Option Jvm.ClassFile.FieldType), Jvm.Cond.code ({ cls := "java/lang/Object", name := "<init>", desc := "()V" } : Jvm.MethodName) object_method_1_code (1 : Nat) (Option.none : Option Jvm.ClassFile.FieldType), Jvm.Cond.code ({ cls := "com/example/tidemark/tidemark/VmType", name := "secondsToSend", desc := "(JLcom/example/tidemark/tidemark/VmType;)D" } : Jvm.MethodName) prog_12_method_9_code (4 : Nat) (Option.some Jvm.ClassFile.FieldType.double), Jvm.Cond.code ({ cls := "java/lang/Math", name := "min", desc := "(DD)D" } : Jvm.MethodName) jdk_29_method_72_code (4 : Nat) (Option.some Jvm.ClassFile.FieldType.double), Jvm.Cond.code ({ cls := "com/example/tidemark/tidemark/VmType", name := "secondsToSend", desc := "(JD)D" } : Jvm.MethodName) prog_12_method_10_code (4 : Nat) (Option.some Jvm.ClassFile.FieldType.double)]
set_option maxRecDepth 65536 in
theorem codes_eq : words1.filter isCode = codes1 := rfl
theorem w_codes : ∀ c ∈ words1.filter isCode, c.before args0 about1 = true := by
  rw [codes_eq]
  intro c hc
  simp only [codes1, List.mem_cons, List.not_mem_nil, or_false] at hc
  rcases hc with rfl | rfl | rfl | rfl | rfl | rfl
  · exact w_c0
  · exact w_c1
  · exact w_c2
  · exact w_c3
  · exact w_c4
  · exact w_c5
set_option maxRecDepth 65536 in
theorem w_t1 : (words1.take 24).all (fun c => isCode c || c.before args0 about1) = true := by decide +kernel
set_option maxRecDepth 65536 in
theorem w_t2 : ((words1.drop 24).take 24).all (fun c => isCode c || c.before args0 about1) = true := by decide +kernel
set_option maxRecDepth 65536 in
theorem w_t3 : ((words1.drop 24).drop 24).all (fun c => isCode c || c.before args0 about1) = true := by decide +kernel
theorem w_tables : (allAtoms (Jvm.Cond.code x code maxLocals ret :: tables_1)).before args0 about1 = true := by
  rw [allAtoms_all]
  show words1.all (fun c => c.before args0 about1) = true
  refine all_split ?_ w_codes
  rw [← List.take_append_drop 24 words1, List.all_append, w_t1, ← List.take_append_drop 24 (words1.drop 24), List.all_append, w_t2, w_t3]
  rfl
set_option maxRecDepth 65536 in
theorem w_case : (Jvm.Cond.and given_1 narrow_1).before args0 about1 = true := by decide +kernel
theorem w_applies : (headSpec (Jvm.Cond.code x code maxLocals ret :: tables_1) room_1).applies x e0.platform about1 = true :=
  (Spec.applies_iff w_frames).mpr ⟨w_running, w_runnable, w_alone, w_named, w_hears, w_ripe, w_room, w_tables⟩
theorem atStart : AtStart classFile x code maxLocals ret World_1 tables_1 room_1 Calls_1 rest_1 Pre_1 launch0 p0 e0 about1 theMethod args0 below0 :=
  ⟨lists_1, trivial, launch0.admits_env _ _ _, launch0.least_env, fairChoices_fair.cas, fairChoices_fair.clock, w_frames, w_args, w_heap, w_applies, trivial, trivial, w_case⟩
end start1
theorem witness_1 : WitnessClaimed_1 := ⟨start1.p0, start1.e0, start1.about1, start1.theMethod, start1.args0, start1.below0, start1.atStart⟩
end Jvm.Pilot.@@N@@
