import JvmDerived
import JvmDerived.Pilot.@@N@@Statement
import JvmDerived.Pilot.@@N@@Code
set_option linter.unusedVariables false
set_option linter.unusedSimpArgs false
namespace Jvm.Pilot.@@N@@
open Jvm Jvm.ClassFile Sem Op Lib Jvm.Free Jvm.Stand Jvm.LawKit Jvm.RoadKit Bundle Jvm.Pilot.@@N@@.Jvm.D
section OwnKit
variable {p : Program} {l : Launch} {e : Env} {R : Room} {s : State} {m : MethodId} {args : Array Value} {below : List Frame} {meth : Method} {c : Code} {T T' : State} {locs : List Loc} {cells slots ck sk : Nat} {Q : Option Value → Heap → List Loc → Prop} {g g' : JFrame}
/-- from the state T with the top frame g the body ends, and Q says how -/
def Goes (p : Program) (e : Env) (below : List Frame) (s : State) (ck sk : Nat) (Q : Option Value → Heap → List Loc → Prop) (T : State) (g : JFrame) : Prop :=
  ∃ s₂ o, Steps p.tables e below (T.setTop g) s₂ ∧ s₂.status = .running ∧ Ended s₂ below o ∧ ∃ v L, o = .returned v ∧ Q v s₂.heap L ∧ FrameEnd s o s₂ L ck sk
theorem go (h : ∀ t, Steps p.tables e below (T'.setTop g') t → Steps p.tables e below (T.setTop g) t) (k : Goes p e below s ck sk Q T' g') : Goes p e below s ck sk Q T g := by
  obtain ⟨s₂, o, h1, r⟩ := k
  exact ⟨s₂, o, h _ h1, r⟩
theorem goV (h : Steps p.tables e below (T.setTop g) (T'.setTop g')) (k : Goes p e below s ck sk Q T' g') : Goes p e below s ck sk Q T g := go (fun _ kt => h.trans kt) k
theorem goEq (h : g = g') (k : Goes p e below s ck sk Q T g') : Goes p e below s ck sk Q T g := h ▸ k
theorem goVia {T₂ : State} {g₂ : JFrame} (h : Goes p e below s ck sk Q T₂ g₂ → Goes p e below s ck sk Q T g) (k : Goes p e below s ck sk Q T₂ g₂) : Goes p e below s ck sk Q T g := h k
theorem goRetN (X : Stand p l e R s m args below meth c T locs cells slots) (hx : p.tables.exec = Jvm.exec) (hlk : meth.locks = false) {pc : Nat} {Ls : Array Slot} {z : Int32} {t : FieldType} {rest : List Value} (hret : meth.sig.returnType = some t) (ht : t = .boolean ∨ t = .byte ∨ t = .char ∨ t = .short) (hd : decode c.code pc = .ok (.ireturn, 1))
    (hq : Q (some (.int (nar t z))) T.heap locs) (h1 : cells ≤ ck) (h2 : slots ≤ sk) : Goes p e below s ck sk Q T (mkF m pc Ls (.int z :: rest)) := by
  obtain ⟨fs, hr, hrun, hended, hW, hsame⟩ := X.leave (v := some (.int (nar t z))) (fun h => by rw [hret] at h; cases h)
  exact ⟨_, _, retN X hx hret ht hd hr, hrun, hended, _, _, rfl, hq, ⟨_, rfl⟩, hW, hsame.mono h1 h2⟩
theorem goRetI (X : Stand p l e R s m args below meth c T locs cells slots) (hx : p.tables.exec = Jvm.exec) (hlk : meth.locks = false) {pc : Nat} {Ls : Array Slot} {z : Int32} {rest : List Value} (hret : meth.sig.returnType = some .int) (hd : decode c.code pc = .ok (.ireturn, 1))
    (hq : Q (some (.int z)) T.heap locs) (h1 : cells ≤ ck) (h2 : slots ≤ sk) : Goes p e below s ck sk Q T (mkF m pc Ls (.int z :: rest)) := by
  obtain ⟨fs, hr, hrun, hended, hW, hsame⟩ := X.leave (v := some (.int z)) (fun h => by rw [hret] at h; cases h)
  exact ⟨_, _, retOut X hx hret rfl (Or.inl ⟨rfl, Or.inl rfl, z, rfl⟩) hd hr, hrun, hended, _, _, rfl, hq, ⟨_, rfl⟩, hW, hsame.mono h1 h2⟩
theorem goRetJ (X : Stand p l e R s m args below meth c T locs cells slots) (hx : p.tables.exec = Jvm.exec) (hlk : meth.locks = false) {pc : Nat} {Ls : Array Slot} {z : Int64} {rest : List Value} (hret : meth.sig.returnType = some .long) (hd : decode c.code pc = .ok (.lreturn, 1))
    (hq : Q (some (.long z)) T.heap locs) (h1 : cells ≤ ck) (h2 : slots ≤ sk) : Goes p e below s ck sk Q T (mkF m pc Ls (.long z :: rest)) := by
  obtain ⟨fs, hr, hrun, hended, hW, hsame⟩ := X.leave (v := some (.long z)) (fun h => by rw [hret] at h; cases h)
  exact ⟨_, _, retOut X hx hret rfl (Or.inr (Or.inl ⟨rfl, rfl, z, rfl⟩)) hd hr, hrun, hended, _, _, rfl, hq, ⟨_, rfl⟩, hW, hsame.mono h1 h2⟩
theorem goRetA (X : Stand p l e R s m args below meth c T locs cells slots) (hx : p.tables.exec = Jvm.exec) (hlk : meth.locks = false) {pc : Nat} {Ls : Array Slot} {w : Value} {t : FieldType} {rest : List Value} (hret : meth.sig.returnType = some t) (ht : t.isReference = true) (hn : narrow t w = w) (hw : w.isRef = true) (hd : decode c.code pc = .ok (.areturn, 1))
    (hq : Q (some w) T.heap locs) (h1 : cells ≤ ck) (h2 : slots ≤ sk) : Goes p e below s ck sk Q T (mkF m pc Ls (w :: rest)) := by
  obtain ⟨fs, hr, hrun, hended, hW, hsame⟩ := X.leave (v := some w) (fun h => by rw [hret] at h; cases h)
  exact ⟨_, _, retOut X hx hret hn (Or.inr (Or.inr (Or.inr (Or.inr ⟨rfl, ht, hw⟩)))) hd hr, hrun, hended, _, _, rfl, hq, ⟨_, rfl⟩, hW, hsame.mono h1 h2⟩
theorem goRetV (X : Stand p l e R s m args below meth c T locs cells slots) (hx : p.tables.exec = Jvm.exec) (hlk : meth.locks = false) {pc : Nat} {Ls : Array Slot} (hret : meth.sig.returnType = none) (hd : decode c.code pc = .ok (.return_, 1))
    (hq : Q none T.heap locs) (h1 : cells ≤ ck) (h2 : slots ≤ sk) : Goes p e below s ck sk Q T (mkF m pc Ls []) := by
  obtain ⟨fs, hr, hrun, hended, hW, hsame⟩ := X.leave (v := none) (fun _ => rfl)
  exact ⟨_, _, X.returnOut hx hret hd hr, hrun, hended, _, _, rfl, hq, ⟨_, rfl⟩, hW, hsame.mono h1 h2⟩
theorem own_l0 {x y : Int64} (h : x = y) : ifCond.holds .eq (lcmpW x y) = true ∧ ifCond.holds .ne (lcmpW x y) = false := by rw [if0, if0]; exact teq ((lw_eq x y).mpr h)
theorem own_l1 {x y : Int64} (h : ¬ x = y) : ifCond.holds .eq (lcmpW x y) = false ∧ ifCond.holds .ne (lcmpW x y) = true := by rw [if0, if0]; exact feq fun q => h ((lw_eq x y).mp q)
theorem own_l2 {x y : Int64} (h : x < y) : ifCond.holds .lt (lcmpW x y) = true ∧ ifCond.holds .ge (lcmpW x y) = false := by rw [if0, if0]; exact ⟨(tlt ((lw_lt x y).mpr h)).1, (tlt ((lw_lt x y).mpr h)).2.1⟩
theorem own_l3 {x y : Int64} (h : ¬ x < y) : ifCond.holds .lt (lcmpW x y) = false ∧ ifCond.holds .ge (lcmpW x y) = true := by
  rw [if0, if0]
  have q : ¬ lcmpW x y < 0 := fun q => h ((lw_lt x y).mp q)
  exact ⟨(flt q).1, (flt q).2.1⟩
theorem own_l4 {x y : Int64} (h : y < x) : ifCond.holds .gt (lcmpW x y) = true ∧ ifCond.holds .le (lcmpW x y) = false := by rw [if0, if0]; exact ⟨(tlt ((lw_gt x y).mpr h)).2.2.1, (tlt ((lw_gt x y).mpr h)).2.2.2⟩
theorem own_l5 {x y : Int64} (h : ¬ y < x) : ifCond.holds .gt (lcmpW x y) = false ∧ ifCond.holds .le (lcmpW x y) = true := by
  rw [if0, if0]
  have q : ¬ 0 < lcmpW x y := fun q => h ((lw_gt x y).mp q)
  exact ⟨(flt q).2.2.1, (flt q).2.2.2⟩
end OwnKit
/-- what isSpace answers -/
def own_sp (x : Int32) : Int32 := if x = 32 ∨ x = 9 ∨ x = 10 ∨ x = 13 then 1 else 0
theorem own_char (x : Int32) : 0 ≤ x.toUInt32.toUInt16.toUInt32.toInt32.toInt := by
  have h := fits_nar_char x
  simp only [nar, fits, Bool.and_eq_true, decide_eq_true_eq] at h
  have := Int32.le_iff_toInt_le.mp (of_decide_eq_true h.1)
  simpa using this
theorem own_a {x : Int32} (h : (32 : Int32) < x) : own_sp x = 0 := by
  have h := Int32.lt_iff_toInt_lt.mp h
  have e : (32 : Int32).toInt = 32 := rfl
  rw [e] at h
  rw [own_sp, if_neg]
  rintro (rfl | rfl | rfl | rfl) <;> revert h <;> decide
theorem own_all : ∀ k : Fin 33, own_sp (Int32.ofInt (k.val : Int)) = if (((4294977024 : Int64).toUInt64 >>> ((Int32.ofInt (k.val : Int)) &&& 0x3f).toInt64.toUInt64).toInt64) &&& (1 : Int64) = (1 : Int64) then 1 else 0 := by decide +kernel
theorem own_b {x : Int32} (h : ¬ (32 : Int32) < x) (h0 : 0 ≤ x.toInt) : own_sp x = if (((4294977024 : Int64).toUInt64 >>> (x &&& 0x3f).toInt64.toUInt64).toInt64) &&& (1 : Int64) = (1 : Int64) then 1 else 0 := by
  have h1 : ¬ (32 : Int32).toInt < x.toInt := fun q => h (Int32.lt_iff_toInt_lt.mpr q)
  have e : (32 : Int32).toInt = 32 := rfl
  rw [e] at h1
  have k := own_all ⟨x.toInt.toNat, by omega⟩
  have e2 : Int32.ofInt ((x.toInt.toNat : Nat) : Int) = x := by rw [Int.toNat_of_nonneg h0]; exact Int32.ofInt_toInt x
  simp only [e2] at k
  exact k

theorem d1_0 : decode prog_27_method_12_code 0 = .ok (.iload_n 0, 1) := by decide +kernel
theorem d1_1 : decode prog_27_method_12_code 1 = .ok (.bipush 32, 2) := by decide +kernel
theorem d1_3 : decode prog_27_method_12_code 3 = .ok (.if_icmp .eq 21, 3) := by decide +kernel
theorem d1_6 : decode prog_27_method_12_code 6 = .ok (.iload_n 0, 1) := by decide +kernel
theorem d1_7 : decode prog_27_method_12_code 7 = .ok (.bipush 9, 2) := by decide +kernel
theorem d1_9 : decode prog_27_method_12_code 9 = .ok (.if_icmp .eq 15, 3) := by decide +kernel
theorem d1_12 : decode prog_27_method_12_code 12 = .ok (.iload_n 0, 1) := by decide +kernel
theorem d1_13 : decode prog_27_method_12_code 13 = .ok (.bipush 10, 2) := by decide +kernel
theorem d1_15 : decode prog_27_method_12_code 15 = .ok (.if_icmp .eq 9, 3) := by decide +kernel
theorem d1_18 : decode prog_27_method_12_code 18 = .ok (.iload_n 0, 1) := by decide +kernel
theorem d1_19 : decode prog_27_method_12_code 19 = .ok (.bipush 13, 2) := by decide +kernel
theorem d1_21 : decode prog_27_method_12_code 21 = .ok (.if_icmp .ne 7, 3) := by decide +kernel
theorem d1_24 : decode prog_27_method_12_code 24 = .ok (.iconst 1, 1) := by decide +kernel
theorem d1_25 : decode prog_27_method_12_code 25 = .ok (.goto 4, 3) := by decide +kernel
theorem d1_28 : decode prog_27_method_12_code 28 = .ok (.iconst 0, 1) := by decide +kernel
theorem d1_29 : decode prog_27_method_12_code 29 = .ok (.ireturn, 1) := by decide +kernel
theorem pn_1 : plainName "com/example/exemplum/exemplum/io/XmlInput" = true := by first | (simp [plainName, overriddenIn]; done) | decide +kernel
theorem ef_1 (m : MethodId) (p1 : Int32) : entryFrame m #[(.int p1)] 1 = mkF m 0 #[.val (.int p1)] [] := by first | (simp [entryFrame, mkF, argsToLocals, Value.category]; done) | rfl
def Q1 (Z : State) (p1 : Int32) (h0 : Heap) (n0 : Nat) (v : Option Value) (h : Heap) (L : List Loc) : Prop := v = some (.int (own_sp p1)) ∧ Fr n0 L ∧ h = h0
set_option maxRecDepth 65536 in
set_option maxHeartbeats 40000000 in
theorem rm1 (l : Launch) (Z : State) (a0 : Array Value) (hw : ∀ d ∈ tables_1, d.before a0 Z = true) (ws : List Jvm.Cond) (p1 : Int32) (h0 : Heap) (n0 : Nat) (Z0 : n0 ≤ h0.size)  :
    MetFree l (⟨"com/example/exemplum/exemplum/io/XmlInput", "isSpace", "(C)Z"⟩ : MethodName) (head1 (Jvm.Cond.code (⟨"com/example/exemplum/exemplum/io/XmlInput", "isSpace", "(C)Z"⟩ : MethodName) prog_27_method_12_code 1 (some .boolean) :: ws) ({ frames := 0, cells := 0, slots := 0, locals := 0 } : Room)) (fun a U => a = #[(.int p1)] ∧ Z.Warmed39 U.vm ∧ U.heap = h0) (fun _ _ _ _ _ => True) (fun _ U o U' => ∃ v L, o = .returned v ∧ Q1 Z p1 h0 n0 v U'.heap L ∧ FrameEnd U o U' L ({ frames := 0, cells := 0, slots := 0, locals := 0 } : Room).cells ({ frames := 0, cells := 0, slots := 0, locals := 0 } : Room).slots) := by
  refine MetFree.of_bodySF (plainFor_of_name pn_1) hisR ?_
  intro p e s m args below meth c s₁ Bd hml0 hP hK
  obtain ⟨rfl, hZ, hh⟩ := hP
  have hx := Bd.exec
  have hby := Bd.bytes
  have hlk := Bd.notSynchronized
  have hml : c.maxLocals = 1 := hml0
  have hown : s.vm.findClass "com/example/exemplum/exemplum/io/XmlInput" = some m.cls := findClass_of_methodNamed Bd.named
  have hnm := (name_of_methodNamed Bd.named Bd.method).1
  have X0 : Stand p l e ({ frames := 0, cells := 0, slots := 0, locals := 0 } : Room) s m #[(.int p1)] below meth c s₁ [] 0 0 := Stand.of_body Bd
  have e0 : s₁.heap = h0 := by rw [← hh, Bd.state]; rfl
  have N0 := Fr.nil n0
  show Goes p e below s 0 0 (Q1 Z p1 h0 n0) s₁ (entryFrame m #[(.int p1)] 1)
  refine goEq (ef_1 m p1) ?_
  refine go (T' := s₁) (g' := (mkF m 1 #[.val (.int p1)] [(.int p1)])) (fun t kt => XS.iloadN X0.here hx rfl (hb hby d1_0) rfl kt) ?_
  refine go (T' := s₁) (g' := (mkF m 3 #[.val (.int p1)] [(.int (32 : Int32)), (.int p1)])) (fun t kt => XS.bipush X0.here hx rfl (hb hby d1_1) kt) ?_
  by_cases hc0 : p1 = (32 : Int32)
  · refine go (T' := s₁) (g' := (mkF m 24 #[.val (.int p1)] [])) (fun t kt => XS.icmpYes X0.here hx rfl (pc0 := 3) (pc' := 24) rfl (hb hby d1_3) rfl (teq hc0).1 (by decide) (by decide) kt) ?_
    refine go (T' := s₁) (g' := (mkF m 25 #[.val (.int p1)] [(.int (1 : Int32))])) (fun t kt => XS.iconst X0.here hx rfl (hb hby d1_24) kt) ?_
    refine go (T' := s₁) (g' := (mkF m 29 #[.val (.int p1)] [(.int (1 : Int32))])) (fun t kt => XS.goto X0.here hx rfl (pc0 := 25) (pc' := 29) rfl (hb hby d1_25) (by decide) (by decide) kt) ?_
    refine goRetN X0 hx hlk (t := .boolean) Bd.returns (by simp) (hb hby d1_29) ?_ (by decide) (by decide)
    rw [e0]
    exact ⟨by rw [show own_sp p1 = 1 from by simp [own_sp, hc0]]; rfl, N0, rfl⟩
  · refine go (T' := s₁) (g' := (mkF m 6 #[.val (.int p1)] [])) (fun t kt => XS.icmpNo X0.here hx rfl (hb hby d1_3) rfl (feq hc0).1 kt) ?_
    refine go (T' := s₁) (g' := (mkF m 7 #[.val (.int p1)] [(.int p1)])) (fun t kt => XS.iloadN X0.here hx rfl (hb hby d1_6) rfl kt) ?_
    refine go (T' := s₁) (g' := (mkF m 9 #[.val (.int p1)] [(.int (9 : Int32)), (.int p1)])) (fun t kt => XS.bipush X0.here hx rfl (hb hby d1_7) kt) ?_
    by_cases hc1 : p1 = (9 : Int32)
    · refine go (T' := s₁) (g' := (mkF m 24 #[.val (.int p1)] [])) (fun t kt => XS.icmpYes X0.here hx rfl (pc0 := 9) (pc' := 24) rfl (hb hby d1_9) rfl (teq hc1).1 (by decide) (by decide) kt) ?_
      refine go (T' := s₁) (g' := (mkF m 25 #[.val (.int p1)] [(.int (1 : Int32))])) (fun t kt => XS.iconst X0.here hx rfl (hb hby d1_24) kt) ?_
      refine go (T' := s₁) (g' := (mkF m 29 #[.val (.int p1)] [(.int (1 : Int32))])) (fun t kt => XS.goto X0.here hx rfl (pc0 := 25) (pc' := 29) rfl (hb hby d1_25) (by decide) (by decide) kt) ?_
      refine goRetN X0 hx hlk (t := .boolean) Bd.returns (by simp) (hb hby d1_29) ?_ (by decide) (by decide)
      rw [e0]
      exact ⟨by rw [show own_sp p1 = 1 from by simp [own_sp, hc0, hc1]]; rfl, N0, rfl⟩
    · refine go (T' := s₁) (g' := (mkF m 12 #[.val (.int p1)] [])) (fun t kt => XS.icmpNo X0.here hx rfl (hb hby d1_9) rfl (feq hc1).1 kt) ?_
      refine go (T' := s₁) (g' := (mkF m 13 #[.val (.int p1)] [(.int p1)])) (fun t kt => XS.iloadN X0.here hx rfl (hb hby d1_12) rfl kt) ?_
      refine go (T' := s₁) (g' := (mkF m 15 #[.val (.int p1)] [(.int (10 : Int32)), (.int p1)])) (fun t kt => XS.bipush X0.here hx rfl (hb hby d1_13) kt) ?_
      by_cases hc2 : p1 = (10 : Int32)
      · refine go (T' := s₁) (g' := (mkF m 24 #[.val (.int p1)] [])) (fun t kt => XS.icmpYes X0.here hx rfl (pc0 := 15) (pc' := 24) rfl (hb hby d1_15) rfl (teq hc2).1 (by decide) (by decide) kt) ?_
        refine go (T' := s₁) (g' := (mkF m 25 #[.val (.int p1)] [(.int (1 : Int32))])) (fun t kt => XS.iconst X0.here hx rfl (hb hby d1_24) kt) ?_
        refine go (T' := s₁) (g' := (mkF m 29 #[.val (.int p1)] [(.int (1 : Int32))])) (fun t kt => XS.goto X0.here hx rfl (pc0 := 25) (pc' := 29) rfl (hb hby d1_25) (by decide) (by decide) kt) ?_
        refine goRetN X0 hx hlk (t := .boolean) Bd.returns (by simp) (hb hby d1_29) ?_ (by decide) (by decide)
        rw [e0]
        exact ⟨by rw [show own_sp p1 = 1 from by simp [own_sp, hc0, hc1, hc2]]; rfl, N0, rfl⟩
      · refine go (T' := s₁) (g' := (mkF m 18 #[.val (.int p1)] [])) (fun t kt => XS.icmpNo X0.here hx rfl (hb hby d1_15) rfl (feq hc2).1 kt) ?_
        refine go (T' := s₁) (g' := (mkF m 19 #[.val (.int p1)] [(.int p1)])) (fun t kt => XS.iloadN X0.here hx rfl (hb hby d1_18) rfl kt) ?_
        refine go (T' := s₁) (g' := (mkF m 21 #[.val (.int p1)] [(.int (13 : Int32)), (.int p1)])) (fun t kt => XS.bipush X0.here hx rfl (hb hby d1_19) kt) ?_
        by_cases hc3 : p1 = (13 : Int32)
        · refine go (T' := s₁) (g' := (mkF m 24 #[.val (.int p1)] [])) (fun t kt => XS.icmpNo X0.here hx rfl (hb hby d1_21) rfl (teq hc3).2 kt) ?_
          refine go (T' := s₁) (g' := (mkF m 25 #[.val (.int p1)] [(.int (1 : Int32))])) (fun t kt => XS.iconst X0.here hx rfl (hb hby d1_24) kt) ?_
          refine go (T' := s₁) (g' := (mkF m 29 #[.val (.int p1)] [(.int (1 : Int32))])) (fun t kt => XS.goto X0.here hx rfl (pc0 := 25) (pc' := 29) rfl (hb hby d1_25) (by decide) (by decide) kt) ?_
          refine goRetN X0 hx hlk (t := .boolean) Bd.returns (by simp) (hb hby d1_29) ?_ (by decide) (by decide)
          rw [e0]
          exact ⟨by rw [show own_sp p1 = 1 from by simp [own_sp, hc0, hc1, hc2, hc3]]; rfl, N0, rfl⟩
        · refine go (T' := s₁) (g' := (mkF m 28 #[.val (.int p1)] [])) (fun t kt => XS.icmpYes X0.here hx rfl (pc0 := 21) (pc' := 28) rfl (hb hby d1_21) rfl (feq hc3).2 (by decide) (by decide) kt) ?_
          refine go (T' := s₁) (g' := (mkF m 29 #[.val (.int p1)] [(.int (0 : Int32))])) (fun t kt => XS.iconst X0.here hx rfl (hb hby d1_28) kt) ?_
          refine goRetN X0 hx hlk (t := .boolean) Bd.returns (by simp) (hb hby d1_29) ?_ (by decide) (by decide)
          rw [e0]
          exact ⟨by rw [show own_sp p1 = 0 from by simp [own_sp, hc0, hc1, hc2, hc3]]; rfl, N0, rfl⟩
theorem pd_0 : parseMethodDescriptor "(C)Z" = some ⟨[.char], some .boolean⟩ := by decide +kernel
theorem pn_0 : plainName "com/example/exemplum/exemplum/io/XmlInputIsSpacePinLaw" = true := by first | (simp [plainName, overriddenIn]; done) | decide +kernel
theorem ef_0 (m : MethodId) (p1 : Int32) : entryFrame m #[(.int p1)] maxLocals = mkF m 0 #[.val (.int p1), .unset, .unset, .unset] [] := by first | (simp [entryFrame, mkF, argsToLocals, Value.category, maxLocals]; done) | rfl
def Q0 (Z : State) (p1 : Int32) (h0 : Heap) (n0 : Nat) (v : Option Value) (h : Heap) (L : List Loc) : Prop := v = some (.int 1) ∧ Fr n0 L
set_option maxRecDepth 65536 in
set_option maxHeartbeats 40000000 in
theorem rm0 (l : Launch) (Z : State) (a0 : Array Value) (hw : ∀ d ∈ tables_1, d.before a0 Z = true) (ws : List Jvm.Cond) (p1 : Int32) (h0 : Heap) (n0 : Nat) (Z0 : n0 ≤ h0.size)  :
    MetFree l x (head1 (Jvm.Cond.code x code maxLocals ret :: ws) room_1) (fun a U => a = #[(.int p1)] ∧ Z.Warmed39 U.vm ∧ U.heap = h0) (fun _ _ _ _ _ => True) (fun _ U o U' => ∃ v L, o = .returned v ∧ Q0 Z p1 h0 n0 v U'.heap L ∧ FrameEnd U o U' L 0 0) := by
  refine MetFree.of_bodySF (plainFor_of_name pn_0) hisR ?_
  intro p e s m args below meth c s₁ Bd hml0 hP hK
  obtain ⟨rfl, hZ, hh⟩ := hP
  have hx := Bd.exec
  have hby := Bd.bytes
  have hlk := Bd.notSynchronized
  have hml : c.maxLocals = 4 := hml0
  have hown : s.vm.findClass "com/example/exemplum/exemplum/io/XmlInputIsSpacePinLaw" = some m.cls := findClass_of_methodNamed Bd.named
  have hnm := (name_of_methodNamed Bd.named Bd.method).1
  have X0 : Stand p l e room_1 s m #[(.int p1)] below meth c s₁ [] 0 0 := Stand.of_body Bd
  have e0 : s₁.heap = h0 := by rw [← hh, Bd.state]; rfl
  have N0 := Fr.nil n0
  show Goes p e below s 0 0 (Q0 Z p1 h0 n0) s₁ (entryFrame m #[(.int p1)] maxLocals)
  refine goEq (ef_0 m p1) ?_
  refine go (T' := s₁) (g' := (mkF m 1 #[.val (.int p1), .unset, .unset, .unset] [(.int p1)])) (fun t kt => XS.iloadN X0.here hx rfl (hb hby at_0) rfl kt) ?_
  refine go (T' := s₁) (g' := (mkF m 2 #[.val (.int p1), .unset, .unset, .unset] [(.int (p1.toUInt32.toUInt16.toUInt32.toInt32))])) (fun t kt => XS.i2c X0.here hx rfl (hb hby at_1) rfl kt) ?_
  obtain ⟨c1, e_c1⟩ : ∃ z, z = (p1.toUInt32.toUInt16.toUInt32.toInt32) := ⟨_, rfl⟩
  refine goEq (g' := (mkF m 2 #[.val (.int p1), .unset, .unset, .unset] [(.int c1)])) (by rw [e_c1]) ?_
  have hc1 : 0 ≤ c1.toInt := by rw [e_c1]; exact own_char p1
  refine go (T' := s₁) (g' := (mkF m 3 #[.val (.int p1), .val (.int c1), .unset, .unset] [])) (fun t kt => XS.istoreN X0.here hx rfl (hb hby at_2) rfl (l' := #[.val (.int p1), .val (.int c1), .unset, .unset]) rfl kt) ?_
  refine go (T' := s₁) (g' := (mkF m 4 #[.val (.int p1), .val (.int c1), .unset, .unset] [(.int c1)])) (fun t kt => XS.iloadN X0.here hx rfl (hb hby at_3) rfl kt) ?_
  refine go (T' := s₁) (g' := (mkF m 5 #[.val (.int p1), .val (.int c1), .val (.int c1), .unset] [])) (fun t kt => XS.istoreN X0.here hx rfl (hb hby at_4) rfl (l' := #[.val (.int p1), .val (.int c1), .val (.int c1), .unset]) rfl kt) ?_
  refine goVia (T₂ := s₁) (g₂ := (mkF m 28 #[.val (.int p1), .val (.int c1), .val (.int c1), .unset] [(.int (own_sp c1))])) (fun kV => ?_) ?_
  · refine go (T' := s₁) (g' := (mkF m 6 #[.val (.int p1), .val (.int c1), .val (.int c1), .unset] [(.int c1)])) (fun t kt => XS.iloadN X0.here hx rfl (hb hby at_5) rfl kt) ?_
    refine go (T' := s₁) (g' := (mkF m 8 #[.val (.int p1), .val (.int c1), .val (.int c1), .unset] [(.int (32 : Int32)), (.int c1)])) (fun t kt => XS.bipush X0.here hx rfl (hb hby at_6) kt) ?_
    by_cases h8 : (32 : Int32) < c1
    · refine go (T' := s₁) (g' := (mkF m 27 #[.val (.int p1), .val (.int c1), .val (.int c1), .unset] [])) (fun t kt => XS.icmpYes X0.here hx rfl (pc0 := 8) (pc' := 27) rfl (hb hby at_8) rfl (tlt h8).2.2.1 (by decide) (by decide) kt) ?_
      refine go (T' := s₁) (g' := (mkF m 28 #[.val (.int p1), .val (.int c1), .val (.int c1), .unset] [(.int (0 : Int32))])) (fun t kt => XS.iconst X0.here hx rfl (hb hby at_27) kt) ?_
      exact goEq (by rw [own_a h8]) kV
    · refine go (T' := s₁) (g' := (mkF m 11 #[.val (.int p1), .val (.int c1), .val (.int c1), .unset] [])) (fun t kt => XS.icmpNo X0.here hx rfl (hb hby at_8) rfl (flt h8).2.2.1 kt) ?_
      refine go (T' := s₁) (g' := (mkF m 14 #[.val (.int p1), .val (.int c1), .val (.int c1), .unset] [(.long (4294977024 : Int64))])) (fun t kt => X0.ldc2Long hx hown (mvT hZ (hw _ (List.mem_of_getElem? (i := 0) rfl))) (g := (mkF m 11 #[.val (.int p1), .val (.int c1), .val (.int c1), .unset] [])) rfl (hb hby at_11) _ kt) ?_
      refine go (T' := s₁) (g' := (mkF m 15 #[.val (.int p1), .val (.int c1), .val (.int c1), .unset] [(.int c1), (.long (4294977024 : Int64))])) (fun t kt => XS.iloadN X0.here hx rfl (hb hby at_14) rfl kt) ?_
      refine go (T' := s₁) (g' := (mkF m 16 #[.val (.int p1), .val (.int c1), .val (.int c1), .unset] [(.long (((4294977024 : Int64).toUInt64 >>> (c1 &&& 0x3f).toInt64.toUInt64).toInt64))])) (fun t kt => XS.lushr X0.here hx rfl (hb hby at_15) rfl kt) ?_
      refine go (T' := s₁) (g' := (mkF m 17 #[.val (.int p1), .val (.int c1), .val (.int c1), .unset] [(.long (1 : Int64)), (.long (((4294977024 : Int64).toUInt64 >>> (c1 &&& 0x3f).toInt64.toUInt64).toInt64))])) (fun t kt => XS.lconst X0.here hx rfl (hb hby at_16) kt) ?_
      refine go (T' := s₁) (g' := (mkF m 18 #[.val (.int p1), .val (.int c1), .val (.int c1), .unset] [(.long ((((4294977024 : Int64).toUInt64 >>> (c1 &&& 0x3f).toInt64.toUInt64).toInt64) &&& (1 : Int64)))])) (fun t kt => XS.land X0.here hx rfl (hb hby at_17) rfl kt) ?_
      refine go (T' := s₁) (g' := (mkF m 19 #[.val (.int p1), .val (.int c1), .val (.int c1), .unset] [(.long (1 : Int64)), (.long ((((4294977024 : Int64).toUInt64 >>> (c1 &&& 0x3f).toInt64.toUInt64).toInt64) &&& (1 : Int64)))])) (fun t kt => XS.lconst X0.here hx rfl (hb hby at_18) kt) ?_
      refine go (T' := s₁) (g' := (mkF m 20 #[.val (.int p1), .val (.int c1), .val (.int c1), .unset] [(.int (lcmpW ((((4294977024 : Int64).toUInt64 >>> (c1 &&& 0x3f).toInt64.toUInt64).toInt64) &&& (1 : Int64)) (1 : Int64)))])) (fun t kt => XS.lcmp X0.here hx rfl (hb hby at_19) rfl kt) ?_
      by_cases h20 : ((((4294977024 : Int64).toUInt64 >>> (c1 &&& 0x3f).toInt64.toUInt64).toInt64) &&& (1 : Int64)) = (1 : Int64)
      · refine go (T' := s₁) (g' := (mkF m 23 #[.val (.int p1), .val (.int c1), .val (.int c1), .unset] [])) (fun t kt => XS.ifNo X0.here hx rfl (hb hby at_20) rfl (own_l0 h20).2 kt) ?_
        refine go (T' := s₁) (g' := (mkF m 24 #[.val (.int p1), .val (.int c1), .val (.int c1), .unset] [(.int (1 : Int32))])) (fun t kt => XS.iconst X0.here hx rfl (hb hby at_23) kt) ?_
        refine go (T' := s₁) (g' := (mkF m 28 #[.val (.int p1), .val (.int c1), .val (.int c1), .unset] [(.int (1 : Int32))])) (fun t kt => XS.goto X0.here hx rfl (pc0 := 24) (pc' := 28) rfl (hb hby at_24) (by decide) (by decide) kt) ?_
        exact goEq (by rw [own_b h8 hc1, if_pos h20]) kV
      · refine go (T' := s₁) (g' := (mkF m 27 #[.val (.int p1), .val (.int c1), .val (.int c1), .unset] [])) (fun t kt => XS.ifYes X0.here hx rfl (pc0 := 20) (pc' := 27) rfl (hb hby at_20) rfl (own_l1 h20).2 (by decide) (by decide) kt) ?_
        refine go (T' := s₁) (g' := (mkF m 28 #[.val (.int p1), .val (.int c1), .val (.int c1), .unset] [(.int (0 : Int32))])) (fun t kt => XS.iconst X0.here hx rfl (hb hby at_27) kt) ?_
        exact goEq (by rw [own_b h8 hc1, if_neg h20]) kV
  · refine go (T' := s₁) (g' := (mkF m 29 #[.val (.int p1), .val (.int c1), .val (.int c1), .val (.int (own_sp c1))] [])) (fun t kt => XS.istoreN X0.here hx rfl (hb hby at_28) rfl (l' := #[.val (.int p1), .val (.int c1), .val (.int c1), .val (.int (own_sp c1))]) rfl kt) ?_
    refine go (T' := s₁) (g' := (mkF m 30 #[.val (.int p1), .val (.int c1), .val (.int c1), .val (.int (own_sp c1))] [(.int c1)])) (fun t kt => XS.iloadN X0.here hx rfl (hb hby at_29) rfl kt) ?_
    obtain ⟨_, _, ⟨T1, L1, k1, n1⟩, -, X1, ⟨Lc1, hQ1, l1, y1, z1⟩, st1⟩ := Jvm.LawKit.callS X0 hx (y := (⟨"com/example/exemplum/exemplum/io/XmlInput", "isSpace", "(C)Z"⟩ : MethodName)) hown (mvT hZ (hw _ (List.mem_of_getElem? (i := 1) rfl))) (mvT hZ (hw _ (List.mem_of_getElem? (i := 2) rfl))) (mvT hZ (hw _ (List.mem_of_getElem? (i := 3) rfl))) (mvT hZ (hw _ (List.mem_of_getElem? (i := 4) rfl))) (by decide) (backOf (W := 0) (rm1 l Z a0 hw [] c1 h0 n0 Z0) hZ (hw _ (List.mem_of_getElem? (i := 4) rfl)) (hw _ (List.mem_of_getElem? (i := 3) rfl)) (by decide) (by decide)) (g := (mkF m 30 #[.val (.int p1), .val (.int c1), .val (.int c1), .val (.int (own_sp c1))] [(.int c1)])) rfl (by rw [hml]; rfl) (argsL := [(.int c1)]) (rest := []) (lenOf pd_0 rfl) rfl (by show 2 * 0 + _ ≤ _; exact Nat.le_of_eq rfl) (hb hby at_30) (fun _ _ => ⟨rfl, e0, (by decide : 0 + 0 ≤ _), (by decide : 0 + 0 ≤ _)⟩)
    dsimp only [Pt.U, Pt.locs, Pt.cells, Pt.slots] at X1 l1 y1 z1 st1 hQ1
    subst l1 y1 z1
    obtain ⟨rfl, N1q, e1⟩ := hQ1
    have N1 := Fr.app N0 N1q
    refine go (T' := T1) (g' := (mkF m 33 #[.val (.int p1), .val (.int c1), .val (.int c1), .val (.int (own_sp c1))] [(.int (own_sp c1))])) st1 ?_
    refine go (T' := T1) (g' := (mkF m 34 #[.val (.int p1), .val (.int c1), .val (.int c1), .val (.int (own_sp c1))] [(.int (own_sp c1)), (.int (own_sp c1))])) (fun t kt => XS.iloadN X1.here hx rfl (hb hby at_33) rfl kt) ?_
    refine go (T' := T1) (g' := (mkF m 37 #[.val (.int p1), .val (.int c1), .val (.int c1), .val (.int (own_sp c1))] [])) (fun t kt => XS.icmpNo X1.here hx rfl (hb hby at_34) rfl (teq (rfl : own_sp c1 = own_sp c1)).2 kt) ?_
    refine go (T' := T1) (g' := (mkF m 38 #[.val (.int p1), .val (.int c1), .val (.int c1), .val (.int (own_sp c1))] [(.int (1 : Int32))])) (fun t kt => XS.iconst X1.here hx rfl (hb hby at_37) kt) ?_
    refine go (T' := T1) (g' := (mkF m 42 #[.val (.int p1), .val (.int c1), .val (.int c1), .val (.int (own_sp c1))] [(.int (1 : Int32))])) (fun t kt => XS.goto X1.here hx rfl (pc0 := 38) (pc' := 42) rfl (hb hby at_38) (by decide) (by decide) kt) ?_
    refine goRetN X1 hx hlk (t := .boolean) Bd.returns (by simp) (hb hby at_42) ?_ (by decide) (by decide)
    rw [e1]
    exact ⟨rfl, N1⟩
set_option maxRecDepth 65536 in
set_option maxHeartbeats 40000000 in
theorem comes_1 {Post : Tables → Env → Array Value → State → Outcome → State → Prop} (hpost : ∀ tb e args s v u, (limb_1_1.after args s (.returned v) u = true ∧ limb_1_2.after args s (.returned v) u = true ∧ True) → FrameEnd s (.returned v) u (Jvm.fieldLocs frame_1_writes args s ++ Jvm.arrayLocs frame_1_arrays args s ++ Jvm.staticLocs frame_1_statics s) 0 0 → Post tb e args s (.returned v) u) :
    ArmFor flags0 classFile x code maxLocals ret World_1 tables_1 room_1 Calls_1 rest_1 Pre_1 Post := by
  intro l hfl _ _ p e ha hc hk s m args below hf hA hF happ hP
  obtain ⟨hcalls, hrest, hpre⟩ := hP
  obtain ⟨-, -, -, hnamed, -, -, -, hat⟩ := (Spec.applies_iff hf).mp happ
  obtain ⟨hg, hn⟩ := and_e (Cond.before_iff.mp (show (Jvm.Cond.and given_1 narrow_1).before args s = true from hpre))
  obtain ⟨g2, g2'⟩ := and_e hg
  obtain ⟨w0, rfl⟩ : ∃ w0 : Value, args = #[w0] := by
    have hs : args.size = 1 := by simpa [Cond.value, given_1] using g2
    obtain ⟨L⟩ := args
    match L, hs with
    | [w0], _ => exact ⟨w0, rfl⟩
  have hw := fun d (hd : d ∈ tables_1) => atoms_spec (ws := Jvm.Cond.code x code maxLocals ret :: tables_1) hat d (List.mem_cons_of_mem _ hd)
  have hfit : Fit s := fun {y c} hc i hi => by
    obtain ⟨ha, rfl⟩ := Array.getElem?_eq_some_iff.mp hc
    have q := List.all_eq_true.mp ((Array.all_eq_true_iff_forall_mem.mp hF) _ (Array.getElem_mem ha)) i (List.mem_range.mpr hi)
    simpa [Array.getElem?_eq_getElem hi] using q
  obtain ⟨i0, ei0⟩ := is_v g2'
  obtain rfl : w0 = (.int i0) := Option.some.inj ei0
  obtain ⟨n, o, h1, h2, h3, _, L, rfl, ⟨rfl, N⟩, hq⟩ := rm0 l s _ hw tables_1 i0 s.heap s.heap.size (Nat.le_refl _) p e ha hc hk s m _ below hf ((Spec.applies_iff_loose hf).mp happ).1 ⟨rfl, State.Warmed39.refl s, rfl⟩ trivial
  refine ⟨n, _, h1, h2, h3, hpost _ _ _ _ _ _ ⟨Cond.after_iff.mpr rfl, Cond.after_iff.mpr (eq_i res_at (Term.int_eval (1)) rfl), trivial⟩ ⟨hq.1, hq.2.1, (hq.2.2.sift fun y hy => Or.inr (N y hy)).mono (by decide) (by decide)⟩⟩
theorem main_1_1 : Claimed_1_1 := comes_1 fun _ _ _ _ _ _ h hF => ⟨h.1, hF⟩
theorem main_1_2 : Claimed_1_2 := comes_1 fun _ _ _ _ _ _ h hF => ⟨h.2.1, hF⟩
end Jvm.Pilot.@@N@@
namespace Jvm.Pilot.@@N@@
open Jvm Jvm.ClassFile Sem Op Lib Jvm.Free Jvm.Stand Jvm.Pilot.@@N@@.Jvm.D
/-! MADE BY PROGRAM (witnessworld.py) out of the Statement's table words and the real class files: 9 classes; the members and pool entries that the words name. The judged class is class 1, her method 1. -/
namespace start1
open Jvm.ClassFile
def u (s : String) : CpInfo := .utf8 (stringToUtf16 s)
/-- a pool by its gaps: so many unusable entries, then the entry; so many at the end -/
def gap : Nat → List CpInfo → List CpInfo
  | 0, r => r
  | n + 1, r => .unusable :: gap n r
def poolList (es : List (Nat × CpInfo)) (last : Nat) : List CpInfo := es.foldr (fun e r => gap e.1 (e.2 :: r)) (gap last [])
def pool (es : List (Nat × CpInfo)) (last : Nat) : Array CpInfo := ⟨poolList es last⟩
def fileOf (pool : Array CpInfo) (this : Nat) (attrs : Array Attribute := #[]) (ms : Array MethodInfo := #[]) (fl : Nat := 33) (sup : Nat := 0) (ifs : Array Nat := #[]) (fds : Array FieldInfo := #[]) : ClassFile where
  minorVersion := 0
  majorVersion := 65
  constantPool := pool
  accessFlags := fl
  thisClass := this
  superClass := sup
  interfaces := ifs
  fields := fds
  methods := ms
  attributes := attrs
def plain (name : String) (sup : Option ClassId) : Class where
  name := name
  kind := .ordinary
  loader := none
  accessFlags := 33
  super := sup
  interfaces := #[]
  cf := none
  fields := #[]
  methods := #[]
  instanceTypes := #[]
  staticTypes := #[]
  resolved := #[]
  callSites := []
  init := .initialized
  statics := none
  mirror := none

def pool0 : Array CpInfo := pool [(5, u "<init>"), (0, u "()V"), (1, .class_ 10), (1, u "java/lang/Object")] 113

def k0m0 : Method := { name := "<init>", desc := "()V", sig := { parameters := [], returnType := none }, accessFlags := 1, code := none }
/-- java/lang/Object -/
def k0 : Class := { plain "java/lang/Object" none with
  accessFlags := 33
  interfaces := #[]
  cf := some (fileOf pool0 8 #[] #[{ accessFlags := 1, nameIndex := 5, descriptorIndex := 6, attributes := #[] }] 33 0 #[] #[])
  fields := #[]
  methods := #[k0m0]
  instanceTypes := #[]
  staticTypes := #[]
  resolved := Array.replicate 124 none
  statics := none }

def pool1 : Array CpInfo := pool [(2, .class_ 4), (1, u "java/lang/Object"), (0, u "<init>"), (0, u "()V"), (0, .class_ 8), (0, u "com/example/exemplum/exemplum/io/XmlInputIsSpacePinLaw"), (0, .long 4294977024), (1, .methodref 12 13), (0, .class_ 14), (0, .nameAndType 15 16), (0, u "com/example/exemplum/exemplum/io/XmlInput"), (0, u "isSpace"), (0, u "(C)Z"), (0, u "XML_SPACES"), (0, u "J"), (3, u "law"), (0, u "(I)Z")] 3

def k1m0 : Method := { name := "<init>", desc := "()V", sig := { parameters := [], returnType := none }, accessFlags := 2, code := none }
def k1c1 : Code := { maxStack := 4, maxLocals := 4, code := code, exceptionTable := #[], attributes := #[] }
def k1m1 : Method := { name := "law", desc := "(I)Z", sig := { parameters := [.int], returnType := some .boolean }, accessFlags := 9, code := some k1c1 }
/-- com/example/exemplum/exemplum/io/XmlInputIsSpacePinLaw -/
def k1 : Class := { plain "com/example/exemplum/exemplum/io/XmlInputIsSpacePinLaw" (some 0) with
  accessFlags := 49
  interfaces := #[]
  cf := some (fileOf pool1 7 #[] #[{ accessFlags := 2, nameIndex := 5, descriptorIndex := 6, attributes := #[] }, { accessFlags := 9, nameIndex := 22, descriptorIndex := 23, attributes := #[] }] 49 2 #[] #[{ accessFlags := 26, nameIndex := 17, descriptorIndex := 18, attributes := #[] }])
  fields := #[{ name := "XML_SPACES", type := .long, accessFlags := 26, slot := 0, constantValue := 0 }]
  methods := #[k1m0, k1m1]
  instanceTypes := #[]
  staticTypes := #[.long]
  resolved := Array.replicate 27 none
  statics := none }

def pool2 : Array CpInfo := pool [(2, .class_ 4), (1, u "java/lang/Object"), (0, u "<init>"), (0, u "()V"), (1, .class_ 10), (1, u "com/example/exemplum/exemplum/io/XmlInput"), (93, u "LIMITS"), (0, u "Ljava/util/Map;"), (154, u "isSpace"), (0, u "(C)Z"), (35, u "MAX_DEPTH"), (0, u "I"), (1, u "MAX_ENTITY_TEXT"), (0, u "MAX_NAME_TEXT"), (0, u "MAX_DOCTYPE_END"), (1, u "IGNORE_EXTERNAL_DTD"), (0, u "Ljava/lang/String;"), (0, u "CDATA_CHUNK_SIZE"), (0, u "CDATA_PIECE")] 63

def k2m0 : Method := { name := "<init>", desc := "()V", sig := { parameters := [], returnType := none }, accessFlags := 2, code := none }
def k2c1 : Code := { maxStack := 2, maxLocals := 1, code := prog_27_method_12_code, exceptionTable := #[], attributes := #[] }
def k2m1 : Method := { name := "isSpace", desc := "(C)Z", sig := { parameters := [.char], returnType := some .boolean }, accessFlags := 9, code := some k2c1 }
/-- com/example/exemplum/exemplum/io/XmlInput -/
def k2 : Class := { plain "com/example/exemplum/exemplum/io/XmlInput" (some 0) with
  accessFlags := 49
  interfaces := #[]
  cf := some (fileOf pool2 8 #[] #[{ accessFlags := 2, nameIndex := 5, descriptorIndex := 6, attributes := #[] }, { accessFlags := 9, nameIndex := 260, descriptorIndex := 261, attributes := #[] }] 49 2 #[] #[{ accessFlags := 25, nameIndex := 297, descriptorIndex := 298, attributes := #[] }, { accessFlags := 25, nameIndex := 300, descriptorIndex := 298, attributes := #[] }, { accessFlags := 25, nameIndex := 301, descriptorIndex := 298, attributes := #[] }, { accessFlags := 25, nameIndex := 302, descriptorIndex := 298, attributes := #[] }, { accessFlags := 26, nameIndex := 304, descriptorIndex := 305, attributes := #[] }, { accessFlags := 26, nameIndex := 306, descriptorIndex := 305, attributes := #[] }, { accessFlags := 26, nameIndex := 307, descriptorIndex := 298, attributes := #[] }, { accessFlags := 26, nameIndex := 104, descriptorIndex := 105, attributes := #[] }])
  fields := #[{ name := "MAX_DEPTH", type := .int, accessFlags := 25, slot := 0, constantValue := 0 }, { name := "MAX_ENTITY_TEXT", type := .int, accessFlags := 25, slot := 1, constantValue := 0 }, { name := "MAX_NAME_TEXT", type := .int, accessFlags := 25, slot := 2, constantValue := 0 }, { name := "MAX_DOCTYPE_END", type := .int, accessFlags := 25, slot := 3, constantValue := 0 }, { name := "IGNORE_EXTERNAL_DTD", type := (.object "java/lang/String"), accessFlags := 26, slot := 4, constantValue := 0 }, { name := "CDATA_CHUNK_SIZE", type := (.object "java/lang/String"), accessFlags := 26, slot := 5, constantValue := 0 }, { name := "CDATA_PIECE", type := .int, accessFlags := 26, slot := 6, constantValue := 0 }, { name := "LIMITS", type := (.object "java/util/Map"), accessFlags := 26, slot := 7, constantValue := 0 }]
  methods := #[k2m0, k2m1]
  instanceTypes := #[]
  staticTypes := #[.int, .int, .int, .int, (.object "java/lang/String"), (.object "java/lang/String"), .int, (.object "java/util/Map")]
  resolved := Array.replicate 371 none
  statics := none }

def pool3 : Array CpInfo := pool [(1, u "java/lang/Cloneable"), (0, .class_ 1), (0, u "java/lang/Object"), (0, .class_ 3)] 3

/-- java/lang/Cloneable -/
def k3 : Class := { plain "java/lang/Cloneable" (some 0) with
  accessFlags := 1537
  interfaces := #[]
  cf := some (fileOf pool3 2 #[] #[] 1537 4 #[] #[])
  fields := #[]
  methods := #[]
  instanceTypes := #[]
  staticTypes := #[]
  resolved := Array.replicate 8 none
  statics := none }

def pool4 : Array CpInfo := pool [(1, u "java/io/Serializable"), (0, .class_ 1), (0, u "java/lang/Object"), (0, .class_ 3)] 3

/-- java/io/Serializable -/
def k4 : Class := { plain "java/io/Serializable" (some 0) with
  accessFlags := 1537
  interfaces := #[]
  cf := some (fileOf pool4 2 #[] #[] 1537 4 #[] #[])
  fields := #[]
  methods := #[]
  instanceTypes := #[]
  staticTypes := #[]
  resolved := Array.replicate 8 none
  statics := none }

/-- the primitive byte -/
def k5 : Class := { plain "byte" none with kind := .primitive 'B', accessFlags := 0x411 }
/-- [B -/
def k6 : Class := { plain "[B" (some 0) with kind := .array 5 .byte, interfaces := #[3, 4], accessFlags := 1041 }

/-- the primitive int -/
def k7 : Class := { plain "int" none with kind := .primitive 'I', accessFlags := 0x411 }
/-- [I -/
def k8 : Class := { plain "[I" (some 0) with kind := .array 7 .int, interfaces := #[3, 4], accessFlags := 1041 }

def heap : Heap := #[]
def classes : Array Class := #[k0, k1, k2, k3, k4, k5, k6, k7, k8]
def interned : List (Array UInt16 × Addr) := []
def slotsUsed : Nat := 0
def theMethod : MethodId := ⟨1, 1⟩
def args0 : Array Value := #[.int 5]
def aboutOver (below : List Frame) : State where
  vm := { classes := classes, interned := interned.toArray }
  heap := heap
  slotsUsed := slotsUsed
  threads := #[{ frames := .invoking theMethod args0 :: below }]
def below0 : List Frame := [.native { method := ⟨0, 0⟩, args := #[] }]
def about1 : State := aboutOver below0
def p0 : Program := .bare "" "" ""
def e0 : Env := launch0.env 0 0 0
theorem w_frames : about1.frames = Frame.invoking theMethod args0 :: below0 := rfl
set_option maxRecDepth 65536 in
theorem w_args : argsFit about1.vm theMethod args0 = true := by decide +kernel
set_option maxRecDepth 65536 in
theorem w_heap : heapFits about1 = true := by decide +kernel
set_option maxRecDepth 65536 in
theorem w_runnable : about1.curStatus? = some .runnable := by decide +kernel
set_option maxRecDepth 65536 in
theorem w_alone : about1.alone = true := by decide +kernel
set_option maxRecDepth 65536 in
theorem w_named : about1.methodNamed? x = some theMethod := by decide +kernel
set_option maxRecDepth 65536 in
theorem w_hears : about1.hears theMethod below0 = true := by decide +kernel
set_option maxRecDepth 65536 in
theorem w_ripe : about1.ripe theMethod args0 below0 = true := by decide +kernel
theorem w_running : about1.status = .running := rfl
set_option maxRecDepth 65536 in
theorem w_room : about1.hasRoom e0.platform room_1 = true :=
  launch0.hasRoom_least _ room_1 (by decide +kernel) (by decide +kernel) (by decide +kernel) (by decide +kernel) (by decide +kernel) (by decide +kernel)
theorem allAtoms_all (ts : List Jvm.Cond) (a : Array Jvm.Value) (st : Jvm.State) : (allAtoms ts).before a st = ts.all (fun c => c.before a st) := by
  induction ts with
  | nil => rfl
  | cons c t ih =>
    show (Jvm.Cond.and c (allAtoms t)).before a st = _
    rw [Jvm.Cond.before_and, ih, List.all_cons]
def words1 : List Jvm.Cond := Jvm.Cond.code x code maxLocals ret :: tables_1
/-- a 'code' word, met by the world's own term for the bytes: nothing is compared byte by byte -/
theorem code_word {y : MethodName} {bytes : ByteArray} {mx : Nat} {rt : Option FieldType} {a : Array Value} {s : State} {m : MethodId} {meth : Method} {c : Code} (h1 : s.methodNamed? y = some m) (h2 : s.vm.method? m = some meth) (h3 : meth.code = some c) (h4 : c.code = bytes)
    (h5 : (c.maxLocals == mx && c.exceptionTable.isEmpty && decide (c.maxStack ≤ mostOperands) && decide (meth.sig.returnType = rt) && !meth.locks && decide (parseMethodDescriptor y.desc = some meth.sig)) = true) : (Jvm.Cond.code y bytes mx rt).before a s = true := by
  simp only [Bool.and_eq_true, beq_iff_eq, Bool.not_eq_true', decide_eq_true_eq] at h5
  obtain ⟨⟨⟨⟨⟨g1, g2⟩, g3⟩, g4⟩, g5⟩, g6⟩ := h5
  simp [Cond.before, Cond.holds, Cond.value, h1, h2, h3, h4, g1, g2, g3, g4, g5, g6]
def isCode : Jvm.Cond → Bool
  | .code _ _ _ _ => true
  | _ => false
theorem all_split {L : List Jvm.Cond} {P : Jvm.Cond → Bool} (h1 : L.all (fun c => isCode c || P c) = true) (h2 : ∀ c ∈ L.filter isCode, P c = true) : L.all P = true := by
  refine List.all_eq_true.mpr fun c hc => ?_
  have h := List.all_eq_true.mp h1 c hc
  rcases Bool.eq_false_or_eq_true (isCode c) with hi | hi
  · exact h2 c (List.mem_filter.mpr ⟨hc, hi⟩)
  · simpa [hi] using h
set_option maxRecDepth 65536 in
theorem w_c0 : (Jvm.Cond.code x code maxLocals ret).before args0 about1 = true := code_word (m := ⟨1, 1⟩) (meth := k1m1) (c := k1c1) (by decide +kernel) rfl rfl rfl (by decide +kernel)
set_option maxRecDepth 65536 in
theorem w_c1 : (Jvm.Cond.code ({ cls := "com/example/exemplum/exemplum/io/XmlInput", name := "isSpace", desc := "(C)Z" } : Jvm.MethodName) prog_27_method_12_code (1 : Nat) (Option.some Jvm.ClassFile.FieldType.boolean)).before args0 about1 = true := code_word (m := ⟨2, 1⟩) (meth := k2m1) (c := k2c1) (by decide +kernel) rfl rfl rfl (by decide +kernel)
def codes1 : List Jvm.Cond := [Jvm.Cond.code x code maxLocals ret, Jvm.Cond.code ({ cls := "com/example/exemplum/exemplum/io/XmlInput", name := "isSpace", desc := "(C)Z" } : Jvm.MethodName) prog_27_method_12_code (1 : Nat) (Option.some Jvm.ClassFile.FieldType.boolean)]
set_option maxRecDepth 65536 in
theorem codes_eq : words1.filter isCode = codes1 := rfl
theorem w_codes : ∀ c ∈ words1.filter isCode, c.before args0 about1 = true := by
  rw [codes_eq]
  intro c hc
  simp only [codes1, List.mem_cons, List.not_mem_nil, or_false] at hc
  rcases hc with rfl | rfl
  · exact w_c0
  · exact w_c1
set_option maxRecDepth 65536 in
theorem w_t1 : words1.all (fun c => isCode c || c.before args0 about1) = true := by decide +kernel
theorem w_tables : (allAtoms (Jvm.Cond.code x code maxLocals ret :: tables_1)).before args0 about1 = true := by
  rw [allAtoms_all]
  show words1.all (fun c => c.before args0 about1) = true
  refine all_split ?_ w_codes
  rw [w_t1]
set_option maxRecDepth 65536 in
theorem w_case : (Jvm.Cond.and given_1 narrow_1).before args0 about1 = true := by decide +kernel
theorem w_applies : (headSpec (Jvm.Cond.code x code maxLocals ret :: tables_1) room_1).applies x e0.platform about1 = true :=
  (Spec.applies_iff w_frames).mpr ⟨w_running, w_runnable, w_alone, w_named, w_hears, w_ripe, w_room, w_tables⟩
theorem atStart : AtStart classFile x code maxLocals ret World_1 tables_1 room_1 Calls_1 rest_1 Pre_1 launch0 p0 e0 about1 theMethod args0 below0 :=
  ⟨lists_1, trivial, launch0.admits_env _ _ _, launch0.least_env, fairChoices_fair.cas, fairChoices_fair.clock, w_frames, w_args, w_heap, w_applies, trivial, trivial, w_case⟩
end start1
theorem witness_1 : WitnessClaimed_1 := ⟨start1.p0, start1.e0, start1.about1, start1.theMethod, start1.args0, start1.below0, start1.atStart⟩
end Jvm.Pilot.@@N@@
