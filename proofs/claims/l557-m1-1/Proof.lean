import JvmDerived
import JvmDerived.Pilot.@@N@@Statement
import JvmDerived.Pilot.@@N@@Code
set_option linter.unusedVariables false
set_option linter.unusedSimpArgs false
namespace Jvm.Pilot.@@N@@
open Jvm Jvm.ClassFile Sem Op Lib Jvm.Free Jvm.Stand Jvm.LawKit Jvm.RoadKit Bundle Jvm.Pilot.@@N@@.Jvm.D
section OwnKit
variable {p : Program} {l : Launch} {e : Env} {R : Room} {s : State} {m : MethodId} {args : Array Value} {below : List Frame} {meth : Method} {c : Code} {T T' : State} {locs : List Loc} {cells slots ck sk : Nat} {Q : Option Value → Heap → List Loc → Prop} {g g' : JFrame}
/-- from the state T with the top frame g the body ends, and Q says how -/
def Goes (p : Program) (e : Env) (below : List Frame) (s : State) (ck sk : Nat) (Q : Option Value → Heap → List Loc → Prop) (T : State) (g : JFrame) : Prop :=
  ∃ s₂ o, Steps p.tables e below (T.setTop g) s₂ ∧ s₂.status = .running ∧ Ended s₂ below o ∧ ∃ v L, o = .returned v ∧ Q v s₂.heap L ∧ FrameEnd s o s₂ L ck sk
theorem go (h : ∀ t, Steps p.tables e below (T'.setTop g') t → Steps p.tables e below (T.setTop g) t) (k : Goes p e below s ck sk Q T' g') : Goes p e below s ck sk Q T g := by
  obtain ⟨s₂, o, h1, r⟩ := k
  exact ⟨s₂, o, h _ h1, r⟩
theorem goV (h : Steps p.tables e below (T.setTop g) (T'.setTop g')) (k : Goes p e below s ck sk Q T' g') : Goes p e below s ck sk Q T g := go (fun _ kt => h.trans kt) k
theorem goEq (h : g = g') (k : Goes p e below s ck sk Q T g') : Goes p e below s ck sk Q T g := h ▸ k
theorem goVia {T₂ : State} {g₂ : JFrame} (h : Goes p e below s ck sk Q T₂ g₂ → Goes p e below s ck sk Q T g) (k : Goes p e below s ck sk Q T₂ g₂) : Goes p e below s ck sk Q T g := h k
theorem goRetN (X : Stand p l e R s m args below meth c T locs cells slots) (hx : p.tables.exec = Jvm.exec) (hlk : meth.locks = false) {pc : Nat} {Ls : Array Slot} {z : Int32} {t : FieldType} {rest : List Value} (hret : meth.sig.returnType = some t) (ht : t = .boolean ∨ t = .byte ∨ t = .char ∨ t = .short) (hd : decode c.code pc = .ok (.ireturn, 1))
    (hq : Q (some (.int (nar t z))) T.heap locs) (h1 : cells ≤ ck) (h2 : slots ≤ sk) : Goes p e below s ck sk Q T (mkF m pc Ls (.int z :: rest)) := by
  obtain ⟨fs, hr, hrun, hended, hW, hsame⟩ := X.leave (v := some (.int (nar t z))) (fun h => by rw [hret] at h; cases h)
  exact ⟨_, _, retN X hx hret ht hd hr, hrun, hended, _, _, rfl, hq, ⟨_, rfl⟩, hW, hsame.mono h1 h2⟩
theorem goRetI (X : Stand p l e R s m args below meth c T locs cells slots) (hx : p.tables.exec = Jvm.exec) (hlk : meth.locks = false) {pc : Nat} {Ls : Array Slot} {z : Int32} {rest : List Value} (hret : meth.sig.returnType = some .int) (hd : decode c.code pc = .ok (.ireturn, 1))
    (hq : Q (some (.int z)) T.heap locs) (h1 : cells ≤ ck) (h2 : slots ≤ sk) : Goes p e below s ck sk Q T (mkF m pc Ls (.int z :: rest)) := by
  obtain ⟨fs, hr, hrun, hended, hW, hsame⟩ := X.leave (v := some (.int z)) (fun h => by rw [hret] at h; cases h)
  exact ⟨_, _, retOut X hx hret rfl (Or.inl ⟨rfl, Or.inl rfl, z, rfl⟩) hd hr, hrun, hended, _, _, rfl, hq, ⟨_, rfl⟩, hW, hsame.mono h1 h2⟩
theorem goRetJ (X : Stand p l e R s m args below meth c T locs cells slots) (hx : p.tables.exec = Jvm.exec) (hlk : meth.locks = false) {pc : Nat} {Ls : Array Slot} {z : Int64} {rest : List Value} (hret : meth.sig.returnType = some .long) (hd : decode c.code pc = .ok (.lreturn, 1))
    (hq : Q (some (.long z)) T.heap locs) (h1 : cells ≤ ck) (h2 : slots ≤ sk) : Goes p e below s ck sk Q T (mkF m pc Ls (.long z :: rest)) := by
  obtain ⟨fs, hr, hrun, hended, hW, hsame⟩ := X.leave (v := some (.long z)) (fun h => by rw [hret] at h; cases h)
  exact ⟨_, _, retOut X hx hret rfl (Or.inr (Or.inl ⟨rfl, rfl, z, rfl⟩)) hd hr, hrun, hended, _, _, rfl, hq, ⟨_, rfl⟩, hW, hsame.mono h1 h2⟩
theorem goRetA (X : Stand p l e R s m args below meth c T locs cells slots) (hx : p.tables.exec = Jvm.exec) (hlk : meth.locks = false) {pc : Nat} {Ls : Array Slot} {w : Value} {t : FieldType} {rest : List Value} (hret : meth.sig.returnType = some t) (ht : t.isReference = true) (hn : narrow t w = w) (hw : w.isRef = true) (hd : decode c.code pc = .ok (.areturn, 1))
    (hq : Q (some w) T.heap locs) (h1 : cells ≤ ck) (h2 : slots ≤ sk) : Goes p e below s ck sk Q T (mkF m pc Ls (w :: rest)) := by
  obtain ⟨fs, hr, hrun, hended, hW, hsame⟩ := X.leave (v := some w) (fun h => by rw [hret] at h; cases h)
  exact ⟨_, _, retOut X hx hret hn (Or.inr (Or.inr (Or.inr (Or.inr ⟨rfl, ht, hw⟩)))) hd hr, hrun, hended, _, _, rfl, hq, ⟨_, rfl⟩, hW, hsame.mono h1 h2⟩
theorem goRetV (X : Stand p l e R s m args below meth c T locs cells slots) (hx : p.tables.exec = Jvm.exec) (hlk : meth.locks = false) {pc : Nat} {Ls : Array Slot} (hret : meth.sig.returnType = none) (hd : decode c.code pc = .ok (.return_, 1))
    (hq : Q none T.heap locs) (h1 : cells ≤ ck) (h2 : slots ≤ sk) : Goes p e below s ck sk Q T (mkF m pc Ls []) := by
  obtain ⟨fs, hr, hrun, hended, hW, hsame⟩ := X.leave (v := none) (fun _ => rfl)
  exact ⟨_, _, X.returnOut hx hret hd hr, hrun, hended, _, _, rfl, hq, ⟨_, rfl⟩, hW, hsame.mono h1 h2⟩
theorem own_l0 {x y : Int64} (h : x = y) : ifCond.holds .eq (lcmpW x y) = true ∧ ifCond.holds .ne (lcmpW x y) = false := by rw [if0, if0]; exact teq ((lw_eq x y).mpr h)
theorem own_l1 {x y : Int64} (h : ¬ x = y) : ifCond.holds .eq (lcmpW x y) = false ∧ ifCond.holds .ne (lcmpW x y) = true := by rw [if0, if0]; exact feq fun q => h ((lw_eq x y).mp q)
theorem own_l2 {x y : Int64} (h : x < y) : ifCond.holds .lt (lcmpW x y) = true ∧ ifCond.holds .ge (lcmpW x y) = false := by rw [if0, if0]; exact ⟨(tlt ((lw_lt x y).mpr h)).1, (tlt ((lw_lt x y).mpr h)).2.1⟩
theorem own_l3 {x y : Int64} (h : ¬ x < y) : ifCond.holds .lt (lcmpW x y) = false ∧ ifCond.holds .ge (lcmpW x y) = true := by
  rw [if0, if0]
  have q : ¬ lcmpW x y < 0 := fun q => h ((lw_lt x y).mp q)
  exact ⟨(flt q).1, (flt q).2.1⟩
theorem own_l4 {x y : Int64} (h : y < x) : ifCond.holds .gt (lcmpW x y) = true ∧ ifCond.holds .le (lcmpW x y) = false := by rw [if0, if0]; exact ⟨(tlt ((lw_gt x y).mpr h)).2.2.1, (tlt ((lw_gt x y).mpr h)).2.2.2⟩
theorem own_l5 {x y : Int64} (h : ¬ y < x) : ifCond.holds .gt (lcmpW x y) = false ∧ ifCond.holds .le (lcmpW x y) = true := by
  rw [if0, if0]
  have q : ¬ 0 < lcmpW x y := fun q => h ((lw_gt x y).mp q)
  exact ⟨(flt q).2.2.1, (flt q).2.2.2⟩
end OwnKit
def own_pick (s x : Int32) : Int32 := if s &&& 3 = 0 then 10 else if s &&& 3 = 1 then 13 else x
def own_line (l c f : Int32) : Int32 := if c = 13 then l + 1 else if c = 10 then (if f = 0 then l + 1 else l) else l
def own_col (k c : Int32) : Int32 := if c = 10 ∨ c = 13 then 1 else k + 1
def own_cr (c : Int32) : Int32 := if c = 13 then 1 else 0
theorem own_ne10 : ¬ ((1 : Int32) = 0) := by decide
theorem own_1013 {c : Int32} (h : c = 10) : ¬ c = 13 := by rw [h]; decide

theorem d1_0 : decode method_2_code 0 = .ok (.iload_n 0, 1) := by decide +kernel
theorem d1_1 : decode method_2_code 1 = .ok (.iconst 3, 1) := by decide +kernel
theorem d1_2 : decode method_2_code 2 = .ok (.iand, 1) := by decide +kernel
theorem d1_3 : decode method_2_code 3 = .ok (.istore_n 2, 1) := by decide +kernel
theorem d1_4 : decode method_2_code 4 = .ok (.iload_n 2, 1) := by decide +kernel
theorem d1_5 : decode method_2_code 5 = .ok (.ifCond .ne 6, 3) := by decide +kernel
theorem d1_8 : decode method_2_code 8 = .ok (.bipush 10, 2) := by decide +kernel
theorem d1_10 : decode method_2_code 10 = .ok (.ireturn, 1) := by decide +kernel
theorem d1_11 : decode method_2_code 11 = .ok (.iload_n 2, 1) := by decide +kernel
theorem d1_12 : decode method_2_code 12 = .ok (.iconst 1, 1) := by decide +kernel
theorem d1_13 : decode method_2_code 13 = .ok (.if_icmp .ne 6, 3) := by decide +kernel
theorem d1_16 : decode method_2_code 16 = .ok (.bipush 13, 2) := by decide +kernel
theorem d1_18 : decode method_2_code 18 = .ok (.ireturn, 1) := by decide +kernel
theorem d1_19 : decode method_2_code 19 = .ok (.iload_n 1, 1) := by decide +kernel
theorem d1_20 : decode method_2_code 20 = .ok (.ireturn, 1) := by decide +kernel
theorem pn_1 : plainName "com/example/exemplum/exemplum/io/TextPositionAdvancePinLaw" = true := by first | (simp [plainName, overriddenIn]; done) | decide +kernel
theorem ef_1 (m : MethodId) (p1 : Int32) (p2 : Int32) : entryFrame m #[(.int p1), (.int p2)] 3 = mkF m 0 #[.val (.int p1), .val (.int p2), .unset] [] := by first | (simp [entryFrame, mkF, argsToLocals, Value.category]; done) | rfl
def Q1 (Z : State) (p1 : Int32) (p2 : Int32) (h0 : Heap) (n0 : Nat) (v : Option Value) (h : Heap) (L : List Loc) : Prop := v = some (.int (own_pick p1 p2)) ∧ Fr n0 L ∧ h = h0
set_option maxRecDepth 65536 in
set_option maxHeartbeats 40000000 in
theorem rm1 (l : Launch) (Z : State) (a0 : Array Value) (hw : ∀ d ∈ tables_1, d.before a0 Z = true) (ws : List Jvm.Cond) (p1 : Int32) (p2 : Int32) (h0 : Heap) (n0 : Nat) (Z0 : n0 ≤ h0.size)  :
    MetFree l (⟨"com/example/exemplum/exemplum/io/TextPositionAdvancePinLaw", "pick", "(II)I"⟩ : MethodName) (head1 (Jvm.Cond.code (⟨"com/example/exemplum/exemplum/io/TextPositionAdvancePinLaw", "pick", "(II)I"⟩ : MethodName) method_2_code 3 (some .int) :: ws) ({ frames := 0, cells := 0, slots := 0, locals := 0 } : Room)) (fun a U => a = #[(.int p1), (.int p2)] ∧ Z.Warmed39 U.vm ∧ U.heap = h0) (fun _ _ _ _ _ => True) (fun _ U o U' => ∃ v L, o = .returned v ∧ Q1 Z p1 p2 h0 n0 v U'.heap L ∧ FrameEnd U o U' L ({ frames := 0, cells := 0, slots := 0, locals := 0 } : Room).cells ({ frames := 0, cells := 0, slots := 0, locals := 0 } : Room).slots) := by
  refine MetFree.of_bodySF (plainFor_of_name pn_1) hisR ?_
  intro p e s m args below meth c s₁ Bd hml0 hP hK
  obtain ⟨rfl, hZ, hh⟩ := hP
  have hx := Bd.exec
  have hby := Bd.bytes
  have hlk := Bd.notSynchronized
  have hml : c.maxLocals = 3 := hml0
  have hown : s.vm.findClass "com/example/exemplum/exemplum/io/TextPositionAdvancePinLaw" = some m.cls := findClass_of_methodNamed Bd.named
  have hnm := (name_of_methodNamed Bd.named Bd.method).1
  have X0 : Stand p l e ({ frames := 0, cells := 0, slots := 0, locals := 0 } : Room) s m #[(.int p1), (.int p2)] below meth c s₁ [] 0 0 := Stand.of_body Bd
  have e0 : s₁.heap = h0 := by rw [← hh, Bd.state]; rfl
  have N0 := Fr.nil n0
  show Goes p e below s 0 0 (Q1 Z p1 p2 h0 n0) s₁ (entryFrame m #[(.int p1), (.int p2)] 3)
  refine goEq (ef_1 m p1 p2) ?_
  refine go (T' := s₁) (g' := (mkF m 1 #[.val (.int p1), .val (.int p2), .unset] [(.int p1)])) (fun t kt => XS.iloadN X0.here hx rfl (hb hby d1_0) rfl kt) ?_
  refine go (T' := s₁) (g' := (mkF m 2 #[.val (.int p1), .val (.int p2), .unset] [(.int (3 : Int32)), (.int p1)])) (fun t kt => XS.iconst X0.here hx rfl (hb hby d1_1) kt) ?_
  refine go (T' := s₁) (g' := (mkF m 3 #[.val (.int p1), .val (.int p2), .unset] [(.int (p1 &&& (3 : Int32)))])) (fun t kt => XS.iand X0.here hx rfl (hb hby d1_2) rfl kt) ?_
  refine go (T' := s₁) (g' := (mkF m 4 #[.val (.int p1), .val (.int p2), .val (.int (p1 &&& (3 : Int32)))] [])) (fun t kt => XS.istoreN X0.here hx rfl (hb hby d1_3) rfl (l' := #[.val (.int p1), .val (.int p2), .val (.int (p1 &&& (3 : Int32)))]) rfl kt) ?_
  refine go (T' := s₁) (g' := (mkF m 5 #[.val (.int p1), .val (.int p2), .val (.int (p1 &&& (3 : Int32)))] [(.int (p1 &&& (3 : Int32)))])) (fun t kt => XS.iloadN X0.here hx rfl (hb hby d1_4) rfl kt) ?_
  by_cases h1 : (p1 &&& (3 : Int32)) = (0 : Int32)
  · refine go (T' := s₁) (g' := (mkF m 8 #[.val (.int p1), .val (.int p2), .val (.int (p1 &&& (3 : Int32)))] [])) (fun t kt => XS.ifNo X0.here hx rfl (hb hby d1_5) rfl ((if0 _ _).trans (teq h1).2) kt) ?_
    refine go (T' := s₁) (g' := (mkF m 10 #[.val (.int p1), .val (.int p2), .val (.int (p1 &&& (3 : Int32)))] [(.int (10 : Int32))])) (fun t kt => XS.bipush X0.here hx rfl (hb hby d1_8) kt) ?_
    refine goRetI X0 hx hlk Bd.returns (hb hby d1_10) ?_ (by decide) (by decide)
    rw [e0]
    exact ⟨by rw [own_pick, if_pos h1], N0, rfl⟩
  · refine go (T' := s₁) (g' := (mkF m 11 #[.val (.int p1), .val (.int p2), .val (.int (p1 &&& (3 : Int32)))] [])) (fun t kt => XS.ifYes X0.here hx rfl (pc0 := 5) (pc' := 11) rfl (hb hby d1_5) rfl ((if0 _ _).trans (feq h1).2) (by decide) (by decide) kt) ?_
    refine go (T' := s₁) (g' := (mkF m 12 #[.val (.int p1), .val (.int p2), .val (.int (p1 &&& (3 : Int32)))] [(.int (p1 &&& (3 : Int32)))])) (fun t kt => XS.iloadN X0.here hx rfl (hb hby d1_11) rfl kt) ?_
    refine go (T' := s₁) (g' := (mkF m 13 #[.val (.int p1), .val (.int p2), .val (.int (p1 &&& (3 : Int32)))] [(.int (1 : Int32)), (.int (p1 &&& (3 : Int32)))])) (fun t kt => XS.iconst X0.here hx rfl (hb hby d1_12) kt) ?_
    by_cases h2 : (p1 &&& (3 : Int32)) = (1 : Int32)
    · refine go (T' := s₁) (g' := (mkF m 16 #[.val (.int p1), .val (.int p2), .val (.int (p1 &&& (3 : Int32)))] [])) (fun t kt => XS.icmpNo X0.here hx rfl (hb hby d1_13) rfl (teq h2).2 kt) ?_
      refine go (T' := s₁) (g' := (mkF m 18 #[.val (.int p1), .val (.int p2), .val (.int (p1 &&& (3 : Int32)))] [(.int (13 : Int32))])) (fun t kt => XS.bipush X0.here hx rfl (hb hby d1_16) kt) ?_
      refine goRetI X0 hx hlk Bd.returns (hb hby d1_18) ?_ (by decide) (by decide)
      rw [e0]
      exact ⟨by rw [own_pick, if_neg h1, if_pos h2], N0, rfl⟩
    · refine go (T' := s₁) (g' := (mkF m 19 #[.val (.int p1), .val (.int p2), .val (.int (p1 &&& (3 : Int32)))] [])) (fun t kt => XS.icmpYes X0.here hx rfl (pc0 := 13) (pc' := 19) rfl (hb hby d1_13) rfl (feq h2).2 (by decide) (by decide) kt) ?_
      refine go (T' := s₁) (g' := (mkF m 20 #[.val (.int p1), .val (.int p2), .val (.int (p1 &&& (3 : Int32)))] [(.int p2)])) (fun t kt => XS.iloadN X0.here hx rfl (hb hby d1_19) rfl kt) ?_
      refine goRetI X0 hx hlk Bd.returns (hb hby d1_20) ?_ (by decide) (by decide)
      rw [e0]
      exact ⟨by rw [own_pick, if_neg h1, if_neg h2], N0, rfl⟩
theorem d5_0 : decode method_3_code 0 = .ok (.iload_n 1, 1) := by decide +kernel
theorem d5_1 : decode method_3_code 1 = .ok (.bipush 13, 2) := by decide +kernel
theorem d5_3 : decode method_3_code 3 = .ok (.if_icmp .ne 7, 3) := by decide +kernel
theorem d5_6 : decode method_3_code 6 = .ok (.iload_n 0, 1) := by decide +kernel
theorem d5_7 : decode method_3_code 7 = .ok (.iconst 1, 1) := by decide +kernel
theorem d5_8 : decode method_3_code 8 = .ok (.iadd, 1) := by decide +kernel
theorem d5_9 : decode method_3_code 9 = .ok (.ireturn, 1) := by decide +kernel
theorem d5_10 : decode method_3_code 10 = .ok (.iload_n 1, 1) := by decide +kernel
theorem d5_11 : decode method_3_code 11 = .ok (.bipush 10, 2) := by decide +kernel
theorem d5_13 : decode method_3_code 13 = .ok (.if_icmp .ne 13, 3) := by decide +kernel
theorem d5_16 : decode method_3_code 16 = .ok (.iload_n 2, 1) := by decide +kernel
theorem d5_17 : decode method_3_code 17 = .ok (.ifCond .eq 5, 3) := by decide +kernel
theorem d5_20 : decode method_3_code 20 = .ok (.iload_n 0, 1) := by decide +kernel
theorem d5_21 : decode method_3_code 21 = .ok (.ireturn, 1) := by decide +kernel
theorem d5_22 : decode method_3_code 22 = .ok (.iload_n 0, 1) := by decide +kernel
theorem d5_23 : decode method_3_code 23 = .ok (.iconst 1, 1) := by decide +kernel
theorem d5_24 : decode method_3_code 24 = .ok (.iadd, 1) := by decide +kernel
theorem d5_25 : decode method_3_code 25 = .ok (.ireturn, 1) := by decide +kernel
theorem d5_26 : decode method_3_code 26 = .ok (.iload_n 0, 1) := by decide +kernel
theorem d5_27 : decode method_3_code 27 = .ok (.ireturn, 1) := by decide +kernel
theorem ef_5 (m : MethodId) (p1 : Int32) (p2 : Int32) (p3 : Int32) : entryFrame m #[(.int p1), (.int p2), (.int p3)] 3 = mkF m 0 #[.val (.int p1), .val (.int p2), .val (.int p3)] [] := by first | (simp [entryFrame, mkF, argsToLocals, Value.category]; done) | rfl
def Q5 (Z : State) (p1 : Int32) (p2 : Int32) (p3 : Int32) (h0 : Heap) (n0 : Nat) (v : Option Value) (h : Heap) (L : List Loc) : Prop := v = some (.int (own_line p1 p2 p3)) ∧ Fr n0 L ∧ h = h0
set_option maxRecDepth 65536 in
set_option maxHeartbeats 40000000 in
theorem rm5 (l : Launch) (Z : State) (a0 : Array Value) (hw : ∀ d ∈ tables_1, d.before a0 Z = true) (ws : List Jvm.Cond) (p1 : Int32) (p2 : Int32) (p3 : Int32) (h0 : Heap) (n0 : Nat) (Z0 : n0 ≤ h0.size)  :
    MetFree l (⟨"com/example/exemplum/exemplum/io/TextPositionAdvancePinLaw", "nextLine", "(IIZ)I"⟩ : MethodName) (head1 (Jvm.Cond.code (⟨"com/example/exemplum/exemplum/io/TextPositionAdvancePinLaw", "nextLine", "(IIZ)I"⟩ : MethodName) method_3_code 3 (some .int) :: ws) ({ frames := 0, cells := 0, slots := 0, locals := 0 } : Room)) (fun a U => a = #[(.int p1), (.int p2), (.int p3)] ∧ Z.Warmed39 U.vm ∧ U.heap = h0) (fun _ _ _ _ _ => True) (fun _ U o U' => ∃ v L, o = .returned v ∧ Q5 Z p1 p2 p3 h0 n0 v U'.heap L ∧ FrameEnd U o U' L ({ frames := 0, cells := 0, slots := 0, locals := 0 } : Room).cells ({ frames := 0, cells := 0, slots := 0, locals := 0 } : Room).slots) := by
  refine MetFree.of_bodySF (plainFor_of_name pn_1) hisR ?_
  intro p e s m args below meth c s₁ Bd hml0 hP hK
  obtain ⟨rfl, hZ, hh⟩ := hP
  have hx := Bd.exec
  have hby := Bd.bytes
  have hlk := Bd.notSynchronized
  have hml : c.maxLocals = 3 := hml0
  have hown : s.vm.findClass "com/example/exemplum/exemplum/io/TextPositionAdvancePinLaw" = some m.cls := findClass_of_methodNamed Bd.named
  have hnm := (name_of_methodNamed Bd.named Bd.method).1
  have X0 : Stand p l e ({ frames := 0, cells := 0, slots := 0, locals := 0 } : Room) s m #[(.int p1), (.int p2), (.int p3)] below meth c s₁ [] 0 0 := Stand.of_body Bd
  have e0 : s₁.heap = h0 := by rw [← hh, Bd.state]; rfl
  have N0 := Fr.nil n0
  show Goes p e below s 0 0 (Q5 Z p1 p2 p3 h0 n0) s₁ (entryFrame m #[(.int p1), (.int p2), (.int p3)] 3)
  refine goEq (ef_5 m p1 p2 p3) ?_
  refine go (T' := s₁) (g' := (mkF m 1 #[.val (.int p1), .val (.int p2), .val (.int p3)] [(.int p2)])) (fun t kt => XS.iloadN X0.here hx rfl (hb hby d5_0) rfl kt) ?_
  refine go (T' := s₁) (g' := (mkF m 3 #[.val (.int p1), .val (.int p2), .val (.int p3)] [(.int (13 : Int32)), (.int p2)])) (fun t kt => XS.bipush X0.here hx rfl (hb hby d5_1) kt) ?_
  by_cases h1 : p2 = (13 : Int32)
  · refine go (T' := s₁) (g' := (mkF m 6 #[.val (.int p1), .val (.int p2), .val (.int p3)] [])) (fun t kt => XS.icmpNo X0.here hx rfl (hb hby d5_3) rfl (teq h1).2 kt) ?_
    refine go (T' := s₁) (g' := (mkF m 7 #[.val (.int p1), .val (.int p2), .val (.int p3)] [(.int p1)])) (fun t kt => XS.iloadN X0.here hx rfl (hb hby d5_6) rfl kt) ?_
    refine go (T' := s₁) (g' := (mkF m 8 #[.val (.int p1), .val (.int p2), .val (.int p3)] [(.int (1 : Int32)), (.int p1)])) (fun t kt => XS.iconst X0.here hx rfl (hb hby d5_7) kt) ?_
    refine go (T' := s₁) (g' := (mkF m 9 #[.val (.int p1), .val (.int p2), .val (.int p3)] [(.int (p1 + (1 : Int32)))])) (fun t kt => XS.iadd X0.here hx rfl (hb hby d5_8) rfl kt) ?_
    refine goRetI X0 hx hlk Bd.returns (hb hby d5_9) ?_ (by decide) (by decide)
    rw [e0]
    exact ⟨by rw [own_line, if_pos h1], N0, rfl⟩
  · refine go (T' := s₁) (g' := (mkF m 10 #[.val (.int p1), .val (.int p2), .val (.int p3)] [])) (fun t kt => XS.icmpYes X0.here hx rfl (pc0 := 3) (pc' := 10) rfl (hb hby d5_3) rfl (feq h1).2 (by decide) (by decide) kt) ?_
    refine go (T' := s₁) (g' := (mkF m 11 #[.val (.int p1), .val (.int p2), .val (.int p3)] [(.int p2)])) (fun t kt => XS.iloadN X0.here hx rfl (hb hby d5_10) rfl kt) ?_
    refine go (T' := s₁) (g' := (mkF m 13 #[.val (.int p1), .val (.int p2), .val (.int p3)] [(.int (10 : Int32)), (.int p2)])) (fun t kt => XS.bipush X0.here hx rfl (hb hby d5_11) kt) ?_
    by_cases h2 : p2 = (10 : Int32)
    · refine go (T' := s₁) (g' := (mkF m 16 #[.val (.int p1), .val (.int p2), .val (.int p3)] [])) (fun t kt => XS.icmpNo X0.here hx rfl (hb hby d5_13) rfl (teq h2).2 kt) ?_
      refine go (T' := s₁) (g' := (mkF m 17 #[.val (.int p1), .val (.int p2), .val (.int p3)] [(.int p3)])) (fun t kt => XS.iloadN X0.here hx rfl (hb hby d5_16) rfl kt) ?_
      by_cases h3 : p3 = (0 : Int32)
      · refine go (T' := s₁) (g' := (mkF m 22 #[.val (.int p1), .val (.int p2), .val (.int p3)] [])) (fun t kt => XS.ifYes X0.here hx rfl (pc0 := 17) (pc' := 22) rfl (hb hby d5_17) rfl ((if0 _ _).trans (teq h3).1) (by decide) (by decide) kt) ?_
        refine go (T' := s₁) (g' := (mkF m 23 #[.val (.int p1), .val (.int p2), .val (.int p3)] [(.int p1)])) (fun t kt => XS.iloadN X0.here hx rfl (hb hby d5_22) rfl kt) ?_
        refine go (T' := s₁) (g' := (mkF m 24 #[.val (.int p1), .val (.int p2), .val (.int p3)] [(.int (1 : Int32)), (.int p1)])) (fun t kt => XS.iconst X0.here hx rfl (hb hby d5_23) kt) ?_
        refine go (T' := s₁) (g' := (mkF m 25 #[.val (.int p1), .val (.int p2), .val (.int p3)] [(.int (p1 + (1 : Int32)))])) (fun t kt => XS.iadd X0.here hx rfl (hb hby d5_24) rfl kt) ?_
        refine goRetI X0 hx hlk Bd.returns (hb hby d5_25) ?_ (by decide) (by decide)
        rw [e0]
        exact ⟨by rw [own_line, if_neg h1, if_pos h2, if_pos h3], N0, rfl⟩
      · refine go (T' := s₁) (g' := (mkF m 20 #[.val (.int p1), .val (.int p2), .val (.int p3)] [])) (fun t kt => XS.ifNo X0.here hx rfl (hb hby d5_17) rfl ((if0 _ _).trans (feq h3).1) kt) ?_
        refine go (T' := s₁) (g' := (mkF m 21 #[.val (.int p1), .val (.int p2), .val (.int p3)] [(.int p1)])) (fun t kt => XS.iloadN X0.here hx rfl (hb hby d5_20) rfl kt) ?_
        refine goRetI X0 hx hlk Bd.returns (hb hby d5_21) ?_ (by decide) (by decide)
        rw [e0]
        exact ⟨by rw [own_line, if_neg h1, if_pos h2, if_neg h3], N0, rfl⟩
    · refine go (T' := s₁) (g' := (mkF m 26 #[.val (.int p1), .val (.int p2), .val (.int p3)] [])) (fun t kt => XS.icmpYes X0.here hx rfl (pc0 := 13) (pc' := 26) rfl (hb hby d5_13) rfl (feq h2).2 (by decide) (by decide) kt) ?_
      refine go (T' := s₁) (g' := (mkF m 27 #[.val (.int p1), .val (.int p2), .val (.int p3)] [(.int p1)])) (fun t kt => XS.iloadN X0.here hx rfl (hb hby d5_26) rfl kt) ?_
      refine goRetI X0 hx hlk Bd.returns (hb hby d5_27) ?_ (by decide) (by decide)
      rw [e0]
      exact ⟨by rw [own_line, if_neg h1, if_neg h2], N0, rfl⟩
theorem d6_0 : decode method_4_code 0 = .ok (.iload_n 1, 1) := by decide +kernel
theorem d6_1 : decode method_4_code 1 = .ok (.bipush 10, 2) := by decide +kernel
theorem d6_3 : decode method_4_code 3 = .ok (.if_icmp .eq 9, 3) := by decide +kernel
theorem d6_6 : decode method_4_code 6 = .ok (.iload_n 1, 1) := by decide +kernel
theorem d6_7 : decode method_4_code 7 = .ok (.bipush 13, 2) := by decide +kernel
theorem d6_9 : decode method_4_code 9 = .ok (.if_icmp .ne 5, 3) := by decide +kernel
theorem d6_12 : decode method_4_code 12 = .ok (.iconst 1, 1) := by decide +kernel
theorem d6_13 : decode method_4_code 13 = .ok (.ireturn, 1) := by decide +kernel
theorem d6_14 : decode method_4_code 14 = .ok (.iload_n 0, 1) := by decide +kernel
theorem d6_15 : decode method_4_code 15 = .ok (.iconst 1, 1) := by decide +kernel
theorem d6_16 : decode method_4_code 16 = .ok (.iadd, 1) := by decide +kernel
theorem d6_17 : decode method_4_code 17 = .ok (.ireturn, 1) := by decide +kernel
theorem ef_6 (m : MethodId) (p1 : Int32) (p2 : Int32) : entryFrame m #[(.int p1), (.int p2)] 2 = mkF m 0 #[.val (.int p1), .val (.int p2)] [] := by first | (simp [entryFrame, mkF, argsToLocals, Value.category]; done) | rfl
def Q6 (Z : State) (p1 : Int32) (p2 : Int32) (h0 : Heap) (n0 : Nat) (v : Option Value) (h : Heap) (L : List Loc) : Prop := v = some (.int (own_col p1 p2)) ∧ Fr n0 L ∧ h = h0
set_option maxRecDepth 65536 in
set_option maxHeartbeats 40000000 in
theorem rm6 (l : Launch) (Z : State) (a0 : Array Value) (hw : ∀ d ∈ tables_1, d.before a0 Z = true) (ws : List Jvm.Cond) (p1 : Int32) (p2 : Int32) (h0 : Heap) (n0 : Nat) (Z0 : n0 ≤ h0.size)  :
    MetFree l (⟨"com/example/exemplum/exemplum/io/TextPositionAdvancePinLaw", "nextCol", "(II)I"⟩ : MethodName) (head1 (Jvm.Cond.code (⟨"com/example/exemplum/exemplum/io/TextPositionAdvancePinLaw", "nextCol", "(II)I"⟩ : MethodName) method_4_code 2 (some .int) :: ws) ({ frames := 0, cells := 0, slots := 0, locals := 0 } : Room)) (fun a U => a = #[(.int p1), (.int p2)] ∧ Z.Warmed39 U.vm ∧ U.heap = h0) (fun _ _ _ _ _ => True) (fun _ U o U' => ∃ v L, o = .returned v ∧ Q6 Z p1 p2 h0 n0 v U'.heap L ∧ FrameEnd U o U' L ({ frames := 0, cells := 0, slots := 0, locals := 0 } : Room).cells ({ frames := 0, cells := 0, slots := 0, locals := 0 } : Room).slots) := by
  refine MetFree.of_bodySF (plainFor_of_name pn_1) hisR ?_
  intro p e s m args below meth c s₁ Bd hml0 hP hK
  obtain ⟨rfl, hZ, hh⟩ := hP
  have hx := Bd.exec
  have hby := Bd.bytes
  have hlk := Bd.notSynchronized
  have hml : c.maxLocals = 2 := hml0
  have hown : s.vm.findClass "com/example/exemplum/exemplum/io/TextPositionAdvancePinLaw" = some m.cls := findClass_of_methodNamed Bd.named
  have hnm := (name_of_methodNamed Bd.named Bd.method).1
  have X0 : Stand p l e ({ frames := 0, cells := 0, slots := 0, locals := 0 } : Room) s m #[(.int p1), (.int p2)] below meth c s₁ [] 0 0 := Stand.of_body Bd
  have e0 : s₁.heap = h0 := by rw [← hh, Bd.state]; rfl
  have N0 := Fr.nil n0
  show Goes p e below s 0 0 (Q6 Z p1 p2 h0 n0) s₁ (entryFrame m #[(.int p1), (.int p2)] 2)
  refine goEq (ef_6 m p1 p2) ?_
  refine go (T' := s₁) (g' := (mkF m 1 #[.val (.int p1), .val (.int p2)] [(.int p2)])) (fun t kt => XS.iloadN X0.here hx rfl (hb hby d6_0) rfl kt) ?_
  refine go (T' := s₁) (g' := (mkF m 3 #[.val (.int p1), .val (.int p2)] [(.int (10 : Int32)), (.int p2)])) (fun t kt => XS.bipush X0.here hx rfl (hb hby d6_1) kt) ?_
  by_cases h1 : p2 = (10 : Int32)
  · refine go (T' := s₁) (g' := (mkF m 12 #[.val (.int p1), .val (.int p2)] [])) (fun t kt => XS.icmpYes X0.here hx rfl (pc0 := 3) (pc' := 12) rfl (hb hby d6_3) rfl (teq h1).1 (by decide) (by decide) kt) ?_
    refine go (T' := s₁) (g' := (mkF m 13 #[.val (.int p1), .val (.int p2)] [(.int (1 : Int32))])) (fun t kt => XS.iconst X0.here hx rfl (hb hby d6_12) kt) ?_
    refine goRetI X0 hx hlk Bd.returns (hb hby d6_13) ?_ (by decide) (by decide)
    rw [e0]
    exact ⟨by rw [own_col, if_pos (Or.inl h1)], N0, rfl⟩
  · refine go (T' := s₁) (g' := (mkF m 6 #[.val (.int p1), .val (.int p2)] [])) (fun t kt => XS.icmpNo X0.here hx rfl (hb hby d6_3) rfl (feq h1).1 kt) ?_
    refine go (T' := s₁) (g' := (mkF m 7 #[.val (.int p1), .val (.int p2)] [(.int p2)])) (fun t kt => XS.iloadN X0.here hx rfl (hb hby d6_6) rfl kt) ?_
    refine go (T' := s₁) (g' := (mkF m 9 #[.val (.int p1), .val (.int p2)] [(.int (13 : Int32)), (.int p2)])) (fun t kt => XS.bipush X0.here hx rfl (hb hby d6_7) kt) ?_
    by_cases h2 : p2 = (13 : Int32)
    · refine go (T' := s₁) (g' := (mkF m 12 #[.val (.int p1), .val (.int p2)] [])) (fun t kt => XS.icmpNo X0.here hx rfl (hb hby d6_9) rfl (teq h2).2 kt) ?_
      refine go (T' := s₁) (g' := (mkF m 13 #[.val (.int p1), .val (.int p2)] [(.int (1 : Int32))])) (fun t kt => XS.iconst X0.here hx rfl (hb hby d6_12) kt) ?_
      refine goRetI X0 hx hlk Bd.returns (hb hby d6_13) ?_ (by decide) (by decide)
      rw [e0]
      exact ⟨by rw [own_col, if_pos (Or.inr h2)], N0, rfl⟩
    · refine go (T' := s₁) (g' := (mkF m 14 #[.val (.int p1), .val (.int p2)] [])) (fun t kt => XS.icmpYes X0.here hx rfl (pc0 := 9) (pc' := 14) rfl (hb hby d6_9) rfl (feq h2).2 (by decide) (by decide) kt) ?_
      refine go (T' := s₁) (g' := (mkF m 15 #[.val (.int p1), .val (.int p2)] [(.int p1)])) (fun t kt => XS.iloadN X0.here hx rfl (hb hby d6_14) rfl kt) ?_
      refine go (T' := s₁) (g' := (mkF m 16 #[.val (.int p1), .val (.int p2)] [(.int (1 : Int32)), (.int p1)])) (fun t kt => XS.iconst X0.here hx rfl (hb hby d6_15) kt) ?_
      refine go (T' := s₁) (g' := (mkF m 17 #[.val (.int p1), .val (.int p2)] [(.int (p1 + (1 : Int32)))])) (fun t kt => XS.iadd X0.here hx rfl (hb hby d6_16) rfl kt) ?_
      refine goRetI X0 hx hlk Bd.returns (hb hby d6_17) ?_ (by decide) (by decide)
      rw [e0]
      exact ⟨by rw [own_col, if_neg (fun q => q.elim h1 h2)], N0, rfl⟩
theorem d2_0 : decode prog_26_method_1_code 0 = .ok (.aload_n 0, 1) := by decide +kernel
theorem d2_1 : decode prog_26_method_1_code 1 = .ok (.invokespecial 1, 3) := by decide +kernel
theorem d2_4 : decode prog_26_method_1_code 4 = .ok (.aload_n 0, 1) := by decide +kernel
theorem d2_5 : decode prog_26_method_1_code 5 = .ok (.iload_n 1, 1) := by decide +kernel
theorem d2_6 : decode prog_26_method_1_code 6 = .ok (.putfield 7, 3) := by decide +kernel
theorem d2_9 : decode prog_26_method_1_code 9 = .ok (.aload_n 0, 1) := by decide +kernel
theorem d2_10 : decode prog_26_method_1_code 10 = .ok (.iload_n 2, 1) := by decide +kernel
theorem d2_11 : decode prog_26_method_1_code 11 = .ok (.putfield 13, 3) := by decide +kernel
theorem d2_14 : decode prog_26_method_1_code 14 = .ok (.return_, 1) := by decide +kernel
theorem pn_2 : plainName "com/example/exemplum/exemplum/io/TextPosition" = true := by first | (simp [plainName, overriddenIn]; done) | decide +kernel
theorem ef_2 (m : MethodId) (a1 : Addr) (p1 : Int32) (p2 : Int32) : entryFrame m #[(.ref a1), (.int p1), (.int p2)] 3 = mkF m 0 #[.val (.ref a1), .val (.int p1), .val (.int p2)] [] := by first | (simp [entryFrame, mkF, argsToLocals, Value.category]; done) | rfl
def Q2 (Z : State) (a1 : Addr) (p1 : Int32) (p2 : Int32) (h0 : Heap) (n0 : Nat) (v : Option Value) (h : Heap) (L : List Loc) : Prop := v = none ∧ Fr n0 L ∧ Keep h0 h [a1] ∧ Fld Z h a1 "com/example/exemplum/exemplum/io/TextPosition" "line" "I" (.int p1) ∧ Fld Z h a1 "com/example/exemplum/exemplum/io/TextPosition" "column" "I" (.int p2) ∧ Fld Z h a1 "com/example/exemplum/exemplum/io/TextPosition" "afterCarriageReturn" "Z" (.int (0 : Int32))
set_option maxRecDepth 65536 in
set_option maxHeartbeats 40000000 in
theorem rm2 (l : Launch) (Z : State) (a0 : Array Value) (hw : ∀ d ∈ tables_1, d.before a0 Z = true) (ws : List Jvm.Cond) (a1 : Addr) (p1 : Int32) (p2 : Int32) (h0 : Heap) (n0 : Nat) (Z0 : n0 ≤ h0.size) (g_a1 : n0 ≤ a1) (E1 : Exa Z h0 a1 "com/example/exemplum/exemplum/io/TextPosition") (F0 : Fld Z h0 a1 "com/example/exemplum/exemplum/io/TextPosition" "line" "I" (.int (0 : Int32))) (F1 : Fld Z h0 a1 "com/example/exemplum/exemplum/io/TextPosition" "column" "I" (.int (0 : Int32))) (F2 : Fld Z h0 a1 "com/example/exemplum/exemplum/io/TextPosition" "afterCarriageReturn" "Z" (.int (0 : Int32))) :
    MetFree l (⟨"com/example/exemplum/exemplum/io/TextPosition", "<init>", "(II)V"⟩ : MethodName) (head1 (Jvm.Cond.code (⟨"com/example/exemplum/exemplum/io/TextPosition", "<init>", "(II)V"⟩ : MethodName) prog_26_method_1_code 3 none :: ws) ({ frames := 1, cells := 0, slots := 0, locals := 12 } : Room)) (fun a U => a = #[(.ref a1), (.int p1), (.int p2)] ∧ Z.Warmed39 U.vm ∧ U.heap = h0) (fun _ _ _ _ _ => True) (fun _ U o U' => ∃ v L, o = .returned v ∧ Q2 Z a1 p1 p2 h0 n0 v U'.heap L ∧ FrameEnd U o U' L ({ frames := 1, cells := 0, slots := 0, locals := 12 } : Room).cells ({ frames := 1, cells := 0, slots := 0, locals := 12 } : Room).slots) := by
  refine MetFree.of_bodySF (plainFor_of_name pn_2) hisR ?_
  intro p e s m args below meth c s₁ Bd hml0 hP hK
  obtain ⟨rfl, hZ, hh⟩ := hP
  have hx := Bd.exec
  have hby := Bd.bytes
  have hlk := Bd.notSynchronized
  have hml : c.maxLocals = 3 := hml0
  have hown : s.vm.findClass "com/example/exemplum/exemplum/io/TextPosition" = some m.cls := findClass_of_methodNamed Bd.named
  have hnm := (name_of_methodNamed Bd.named Bd.method).1
  have X0 : Stand p l e ({ frames := 1, cells := 0, slots := 0, locals := 12 } : Room) s m #[(.ref a1), (.int p1), (.int p2)] below meth c s₁ [] 0 0 := Stand.of_body Bd
  have e0 : s₁.heap = h0 := by rw [← hh, Bd.state]; rfl
  have N0 := Fr.nil n0
  show Goes p e below s 0 0 (Q2 Z a1 p1 p2 h0 n0) s₁ (entryFrame m #[(.ref a1), (.int p1), (.int p2)] 3)
  refine goEq (ef_2 m a1 p1 p2) ?_
  refine go (T' := s₁) (g' := (mkF m 1 #[.val (.ref a1), .val (.int p1), .val (.int p2)] [(.ref a1)])) (fun t kt => XS.aloadN X0.here hx rfl (hb hby d2_0) rfl rfl kt) ?_
  obtain ⟨T1001, X1001, e1001, st1001⟩ := initO X0 hx hZ hown (hw _ (List.mem_of_getElem? (i := 10) rfl)) (hw _ (List.mem_of_getElem? (i := 11) rfl)) (hw _ (List.mem_of_getElem? (i := 12) rfl)) e0 (g := (mkF m 1 #[.val (.ref a1), .val (.int p1), .val (.int p2)] [(.ref a1)])) rfl (by rw [hml]; rfl) rfl (hb hby d2_1) (by decide) (W := 0) (by show 2 * 0 + _ ≤ _; exact Nat.le_of_eq rfl) (by decide)
  refine go (T' := T1001) (g' := (mkF m 4 #[.val (.ref a1), .val (.int p1), .val (.int p2)] [])) st1001 ?_
  refine go (T' := T1001) (g' := (mkF m 5 #[.val (.ref a1), .val (.int p1), .val (.int p2)] [(.ref a1)])) (fun t kt => XS.aloadN X1001.here hx rfl (hb hby d2_4) rfl rfl kt) ?_
  refine go (T' := T1001) (g' := (mkF m 6 #[.val (.ref a1), .val (.int p1), .val (.int p2)] [(.int p1), (.ref a1)])) (fun t kt => XS.iloadN X1001.here hx rfl (hb hby d2_5) rfl kt) ?_
  obtain ⟨T1002, h1002, X1002, e1002, W1002, st1002⟩ := putF X1001 hx hZ hown (host := "") (Or.inl (hw _ (List.mem_of_getElem? (i := 13) rfl))) Via.refl e1001 F0 E1 (Or.inl (hw _ (List.mem_of_getElem? (i := 14) rfl))) (hw _ (List.mem_of_getElem? (i := 5) rfl)) (ty := .int) (by decide) rfl rfl (g := (mkF m 6 #[.val (.ref a1), .val (.int p1), .val (.int p2)] [(.int p1), (.ref a1)])) rfl rfl (hb hby d2_6)
  have z1002 : n0 ≤ h1002.size := Nat.le_trans Z0 (Keep.of_wr W1002).1
  have fE_a1_1002 : Exa Z h1002 a1 "com/example/exemplum/exemplum/io/TextPosition" := E1.wr W1002
  have fF_a1_column_1002 : Fld Z h1002 a1 "com/example/exemplum/exemplum/io/TextPosition" "column" "I" (.int (0 : Int32)) := F1.other W1002 (Or.inr (slot_ne (Or.inl (hw _ (List.mem_of_getElem? (i := 16) rfl))) (Or.inl (hw _ (List.mem_of_getElem? (i := 14) rfl))) (by decide) (t := .int) (t' := .int) (by decide) (by decide)))
  have fF_a1_afterCarriageReturn_1002 : Fld Z h1002 a1 "com/example/exemplum/exemplum/io/TextPosition" "afterCarriageReturn" "Z" (.int (0 : Int32)) := F2.other W1002 (Or.inr (slot_ne (Or.inl (hw _ (List.mem_of_getElem? (i := 23) rfl))) (Or.inl (hw _ (List.mem_of_getElem? (i := 14) rfl))) (by decide) (t := .boolean) (t' := .int) (by decide) (by decide)))
  have Fw1002 : Fld Z h1002 a1 "com/example/exemplum/exemplum/io/TextPosition" "line" "I" (.int p1) := F0.same W1002
  have K1002 : Keep h0 h1002 [a1] := (Keep.refl h0 [a1]).wr W1002 (Or.inl (List.mem_of_getElem? (i := 0) rfl))
  have N1002 := Fr.snoc X1002 N0 g_a1
  refine go (T' := T1002) (g' := (mkF m 9 #[.val (.ref a1), .val (.int p1), .val (.int p2)] [])) st1002 ?_
  refine go (T' := T1002) (g' := (mkF m 10 #[.val (.ref a1), .val (.int p1), .val (.int p2)] [(.ref a1)])) (fun t kt => XS.aloadN X1002.here hx rfl (hb hby d2_9) rfl rfl kt) ?_
  refine go (T' := T1002) (g' := (mkF m 11 #[.val (.ref a1), .val (.int p1), .val (.int p2)] [(.int p2), (.ref a1)])) (fun t kt => XS.iloadN X1002.here hx rfl (hb hby d2_10) rfl kt) ?_
  obtain ⟨T1003, h1003, X1003, e1003, W1003, st1003⟩ := putF X1002 hx hZ hown (host := "") (Or.inl (hw _ (List.mem_of_getElem? (i := 15) rfl))) Via.refl e1002 fF_a1_column_1002 fE_a1_1002 (Or.inl (hw _ (List.mem_of_getElem? (i := 16) rfl))) (hw _ (List.mem_of_getElem? (i := 5) rfl)) (ty := .int) (by decide) rfl rfl (g := (mkF m 11 #[.val (.ref a1), .val (.int p1), .val (.int p2)] [(.int p2), (.ref a1)])) rfl rfl (hb hby d2_11)
  have z1003 : n0 ≤ h1003.size := Nat.le_trans z1002 (Keep.of_wr W1003).1
  have fE_a1_1003 : Exa Z h1003 a1 "com/example/exemplum/exemplum/io/TextPosition" := fE_a1_1002.wr W1003
  have fF_a1_line_1003 : Fld Z h1003 a1 "com/example/exemplum/exemplum/io/TextPosition" "line" "I" (.int p1) := Fw1002.other W1003 (Or.inr (slot_ne (Or.inl (hw _ (List.mem_of_getElem? (i := 14) rfl))) (Or.inl (hw _ (List.mem_of_getElem? (i := 16) rfl))) (by decide) (t := .int) (t' := .int) (by decide) (by decide)))
  have fF_a1_afterCarriageReturn_1003 : Fld Z h1003 a1 "com/example/exemplum/exemplum/io/TextPosition" "afterCarriageReturn" "Z" (.int (0 : Int32)) := fF_a1_afterCarriageReturn_1002.other W1003 (Or.inr (slot_ne (Or.inl (hw _ (List.mem_of_getElem? (i := 23) rfl))) (Or.inl (hw _ (List.mem_of_getElem? (i := 16) rfl))) (by decide) (t := .boolean) (t' := .int) (by decide) (by decide)))
  have Fw1003 : Fld Z h1003 a1 "com/example/exemplum/exemplum/io/TextPosition" "column" "I" (.int p2) := fF_a1_column_1002.same W1003
  have K1003 : Keep h0 h1003 [a1] := K1002.wr W1003 (Or.inl (List.mem_of_getElem? (i := 0) rfl))
  have N1003 := Fr.snoc X1003 N1002 g_a1
  refine go (T' := T1003) (g' := (mkF m 14 #[.val (.ref a1), .val (.int p1), .val (.int p2)] [])) st1003 ?_
  refine goRetV X1003 hx hlk Bd.returns (hb hby d2_14) ?_ (by decide) (by decide)
  rw [e1003]
  exact ⟨rfl, N1003, K1003, fF_a1_line_1003, Fw1003, fF_a1_afterCarriageReturn_1003⟩
theorem d7_0 : decode prog_26_method_3_code 0 = .ok (.aload_n 0, 1) := by decide +kernel
theorem d7_1 : decode prog_26_method_3_code 1 = .ok (.getfield 7, 3) := by decide +kernel
theorem d7_4 : decode prog_26_method_3_code 4 = .ok (.ireturn, 1) := by decide +kernel
theorem ef_7 (m : MethodId) (a1 : Addr) : entryFrame m #[(.ref a1)] 1 = mkF m 0 #[.val (.ref a1)] [] := by first | (simp [entryFrame, mkF, argsToLocals, Value.category]; done) | rfl
def Q7 (Z : State) (a1 : Addr) (p1 : Int32) (h0 : Heap) (n0 : Nat) (v : Option Value) (h : Heap) (L : List Loc) : Prop := v = some (.int p1) ∧ Fr n0 L ∧ h = h0
set_option maxRecDepth 65536 in
set_option maxHeartbeats 40000000 in
theorem rm7 (l : Launch) (Z : State) (a0 : Array Value) (hw : ∀ d ∈ tables_1, d.before a0 Z = true) (ws : List Jvm.Cond) (a1 : Addr) (p1 : Int32) (h0 : Heap) (n0 : Nat) (Z0 : n0 ≤ h0.size) (F0 : Fld Z h0 a1 "com/example/exemplum/exemplum/io/TextPosition" "line" "I" (.int p1)) :
    MetFree l (⟨"com/example/exemplum/exemplum/io/TextPosition", "line", "()I"⟩ : MethodName) (head1 (Jvm.Cond.code (⟨"com/example/exemplum/exemplum/io/TextPosition", "line", "()I"⟩ : MethodName) prog_26_method_3_code 1 (some .int) :: ws) ({ frames := 0, cells := 0, slots := 0, locals := 0 } : Room)) (fun a U => a = #[(.ref a1)] ∧ Z.Warmed39 U.vm ∧ U.heap = h0) (fun _ _ _ _ _ => True) (fun _ U o U' => ∃ v L, o = .returned v ∧ Q7 Z a1 p1 h0 n0 v U'.heap L ∧ FrameEnd U o U' L ({ frames := 0, cells := 0, slots := 0, locals := 0 } : Room).cells ({ frames := 0, cells := 0, slots := 0, locals := 0 } : Room).slots) := by
  refine MetFree.of_bodySF (plainFor_of_name pn_2) hisR ?_
  intro p e s m args below meth c s₁ Bd hml0 hP hK
  obtain ⟨rfl, hZ, hh⟩ := hP
  have hx := Bd.exec
  have hby := Bd.bytes
  have hlk := Bd.notSynchronized
  have hml : c.maxLocals = 1 := hml0
  have hown : s.vm.findClass "com/example/exemplum/exemplum/io/TextPosition" = some m.cls := findClass_of_methodNamed Bd.named
  have hnm := (name_of_methodNamed Bd.named Bd.method).1
  have X0 : Stand p l e ({ frames := 0, cells := 0, slots := 0, locals := 0 } : Room) s m #[(.ref a1)] below meth c s₁ [] 0 0 := Stand.of_body Bd
  have e0 : s₁.heap = h0 := by rw [← hh, Bd.state]; rfl
  have N0 := Fr.nil n0
  show Goes p e below s 0 0 (Q7 Z a1 p1 h0 n0) s₁ (entryFrame m #[(.ref a1)] 1)
  refine goEq (ef_7 m a1) ?_
  refine go (T' := s₁) (g' := (mkF m 1 #[.val (.ref a1)] [(.ref a1)])) (fun t kt => XS.aloadN X0.here hx rfl (hb hby d7_0) rfl rfl kt) ?_
  obtain ⟨T1004, X1004, e1004, st1004⟩ := getF X0 hx hZ hown (host := "") (Or.inl (hw _ (List.mem_of_getElem? (i := 13) rfl))) Via.refl e0 F0 (g := (mkF m 1 #[.val (.ref a1)] [(.ref a1)])) rfl rfl (hb hby d7_1)
  refine go (T' := T1004) (g' := (mkF m 4 #[.val (.ref a1)] [(.int p1)])) st1004 ?_
  refine goRetI X1004 hx hlk Bd.returns (hb hby d7_4) ?_ (by decide) (by decide)
  rw [e1004]
  exact ⟨rfl, N0, rfl⟩
theorem d8_0 : decode prog_26_method_4_code 0 = .ok (.aload_n 0, 1) := by decide +kernel
theorem d8_1 : decode prog_26_method_4_code 1 = .ok (.getfield 13, 3) := by decide +kernel
theorem d8_4 : decode prog_26_method_4_code 4 = .ok (.ireturn, 1) := by decide +kernel
theorem ef_8 (m : MethodId) (a1 : Addr) : entryFrame m #[(.ref a1)] 1 = mkF m 0 #[.val (.ref a1)] [] := by first | (simp [entryFrame, mkF, argsToLocals, Value.category]; done) | rfl
def Q8 (Z : State) (a1 : Addr) (p1 : Int32) (h0 : Heap) (n0 : Nat) (v : Option Value) (h : Heap) (L : List Loc) : Prop := v = some (.int p1) ∧ Fr n0 L ∧ h = h0
set_option maxRecDepth 65536 in
set_option maxHeartbeats 40000000 in
theorem rm8 (l : Launch) (Z : State) (a0 : Array Value) (hw : ∀ d ∈ tables_1, d.before a0 Z = true) (ws : List Jvm.Cond) (a1 : Addr) (p1 : Int32) (h0 : Heap) (n0 : Nat) (Z0 : n0 ≤ h0.size) (F0 : Fld Z h0 a1 "com/example/exemplum/exemplum/io/TextPosition" "column" "I" (.int p1)) :
    MetFree l (⟨"com/example/exemplum/exemplum/io/TextPosition", "column", "()I"⟩ : MethodName) (head1 (Jvm.Cond.code (⟨"com/example/exemplum/exemplum/io/TextPosition", "column", "()I"⟩ : MethodName) prog_26_method_4_code 1 (some .int) :: ws) ({ frames := 0, cells := 0, slots := 0, locals := 0 } : Room)) (fun a U => a = #[(.ref a1)] ∧ Z.Warmed39 U.vm ∧ U.heap = h0) (fun _ _ _ _ _ => True) (fun _ U o U' => ∃ v L, o = .returned v ∧ Q8 Z a1 p1 h0 n0 v U'.heap L ∧ FrameEnd U o U' L ({ frames := 0, cells := 0, slots := 0, locals := 0 } : Room).cells ({ frames := 0, cells := 0, slots := 0, locals := 0 } : Room).slots) := by
  refine MetFree.of_bodySF (plainFor_of_name pn_2) hisR ?_
  intro p e s m args below meth c s₁ Bd hml0 hP hK
  obtain ⟨rfl, hZ, hh⟩ := hP
  have hx := Bd.exec
  have hby := Bd.bytes
  have hlk := Bd.notSynchronized
  have hml : c.maxLocals = 1 := hml0
  have hown : s.vm.findClass "com/example/exemplum/exemplum/io/TextPosition" = some m.cls := findClass_of_methodNamed Bd.named
  have hnm := (name_of_methodNamed Bd.named Bd.method).1
  have X0 : Stand p l e ({ frames := 0, cells := 0, slots := 0, locals := 0 } : Room) s m #[(.ref a1)] below meth c s₁ [] 0 0 := Stand.of_body Bd
  have e0 : s₁.heap = h0 := by rw [← hh, Bd.state]; rfl
  have N0 := Fr.nil n0
  show Goes p e below s 0 0 (Q8 Z a1 p1 h0 n0) s₁ (entryFrame m #[(.ref a1)] 1)
  refine goEq (ef_8 m a1) ?_
  refine go (T' := s₁) (g' := (mkF m 1 #[.val (.ref a1)] [(.ref a1)])) (fun t kt => XS.aloadN X0.here hx rfl (hb hby d8_0) rfl rfl kt) ?_
  obtain ⟨T1005, X1005, e1005, st1005⟩ := getF X0 hx hZ hown (host := "") (Or.inl (hw _ (List.mem_of_getElem? (i := 15) rfl))) Via.refl e0 F0 (g := (mkF m 1 #[.val (.ref a1)] [(.ref a1)])) rfl rfl (hb hby d8_1)
  refine go (T' := T1005) (g' := (mkF m 4 #[.val (.ref a1)] [(.int p1)])) st1005 ?_
  refine goRetI X1005 hx hlk Bd.returns (hb hby d8_4) ?_ (by decide) (by decide)
  rw [e1005]
  exact ⟨rfl, N0, rfl⟩
theorem d4_0 : decode prog_26_method_2_code 0 = .ok (.iload_n 1, 1) := by decide +kernel
theorem d4_1 : decode prog_26_method_2_code 1 = .ok (.bipush 10, 2) := by decide +kernel
theorem d4_3 : decode prog_26_method_2_code 3 = .ok (.if_icmp .eq 9, 3) := by decide +kernel
theorem d4_6 : decode prog_26_method_2_code 6 = .ok (.iload_n 1, 1) := by decide +kernel
theorem d4_7 : decode prog_26_method_2_code 7 = .ok (.bipush 13, 2) := by decide +kernel
theorem d4_9 : decode prog_26_method_2_code 9 = .ok (.if_icmp .ne 34, 3) := by decide +kernel
theorem d4_12 : decode prog_26_method_2_code 12 = .ok (.iload_n 1, 1) := by decide +kernel
theorem d4_13 : decode prog_26_method_2_code 13 = .ok (.bipush 13, 2) := by decide +kernel
theorem d4_15 : decode prog_26_method_2_code 15 = .ok (.if_icmp .eq 10, 3) := by decide +kernel
theorem d4_18 : decode prog_26_method_2_code 18 = .ok (.aload_n 0, 1) := by decide +kernel
theorem d4_19 : decode prog_26_method_2_code 19 = .ok (.getfield 16, 3) := by decide +kernel
theorem d4_22 : decode prog_26_method_2_code 22 = .ok (.ifCond .ne 13, 3) := by decide +kernel
theorem d4_25 : decode prog_26_method_2_code 25 = .ok (.aload_n 0, 1) := by decide +kernel
theorem d4_26 : decode prog_26_method_2_code 26 = .ok (.dup, 1) := by decide +kernel
theorem d4_27 : decode prog_26_method_2_code 27 = .ok (.getfield 7, 3) := by decide +kernel
theorem d4_30 : decode prog_26_method_2_code 30 = .ok (.iconst 1, 1) := by decide +kernel
theorem d4_31 : decode prog_26_method_2_code 31 = .ok (.iadd, 1) := by decide +kernel
theorem d4_32 : decode prog_26_method_2_code 32 = .ok (.putfield 7, 3) := by decide +kernel
theorem d4_35 : decode prog_26_method_2_code 35 = .ok (.aload_n 0, 1) := by decide +kernel
theorem d4_36 : decode prog_26_method_2_code 36 = .ok (.iconst 1, 1) := by decide +kernel
theorem d4_37 : decode prog_26_method_2_code 37 = .ok (.putfield 13, 3) := by decide +kernel
theorem d4_40 : decode prog_26_method_2_code 40 = .ok (.goto 13, 3) := by decide +kernel
theorem d4_43 : decode prog_26_method_2_code 43 = .ok (.aload_n 0, 1) := by decide +kernel
theorem d4_44 : decode prog_26_method_2_code 44 = .ok (.dup, 1) := by decide +kernel
theorem d4_45 : decode prog_26_method_2_code 45 = .ok (.getfield 13, 3) := by decide +kernel
theorem d4_48 : decode prog_26_method_2_code 48 = .ok (.iconst 1, 1) := by decide +kernel
theorem d4_49 : decode prog_26_method_2_code 49 = .ok (.iadd, 1) := by decide +kernel
theorem d4_50 : decode prog_26_method_2_code 50 = .ok (.putfield 13, 3) := by decide +kernel
theorem d4_53 : decode prog_26_method_2_code 53 = .ok (.aload_n 0, 1) := by decide +kernel
theorem d4_54 : decode prog_26_method_2_code 54 = .ok (.iload_n 1, 1) := by decide +kernel
theorem d4_55 : decode prog_26_method_2_code 55 = .ok (.bipush 13, 2) := by decide +kernel
theorem d4_57 : decode prog_26_method_2_code 57 = .ok (.if_icmp .ne 7, 3) := by decide +kernel
theorem d4_60 : decode prog_26_method_2_code 60 = .ok (.iconst 1, 1) := by decide +kernel
theorem d4_61 : decode prog_26_method_2_code 61 = .ok (.goto 4, 3) := by decide +kernel
theorem d4_64 : decode prog_26_method_2_code 64 = .ok (.iconst 0, 1) := by decide +kernel
theorem d4_65 : decode prog_26_method_2_code 65 = .ok (.putfield 16, 3) := by decide +kernel
theorem d4_68 : decode prog_26_method_2_code 68 = .ok (.return_, 1) := by decide +kernel
theorem ef_4 (m : MethodId) (a1 : Addr) (p1 : Int32) : entryFrame m #[(.ref a1), (.int p1)] 2 = mkF m 0 #[.val (.ref a1), .val (.int p1)] [] := by first | (simp [entryFrame, mkF, argsToLocals, Value.category]; done) | rfl
def Q4 (Z : State) (a1 : Addr) (p1 : Int32) (p2 : Int32) (p3 : Int32) (p4 : Int32) (h0 : Heap) (n0 : Nat) (v : Option Value) (h : Heap) (L : List Loc) : Prop := v = none ∧ Fr n0 L ∧ Keep h0 h [a1] ∧ Fld Z h a1 "com/example/exemplum/exemplum/io/TextPosition" "line" "I" (.int (own_line p2 p1 p4)) ∧ Fld Z h a1 "com/example/exemplum/exemplum/io/TextPosition" "column" "I" (.int (own_col p3 p1)) ∧ Fld Z h a1 "com/example/exemplum/exemplum/io/TextPosition" "afterCarriageReturn" "Z" (.int (own_cr p1))
set_option maxRecDepth 65536 in
set_option maxHeartbeats 40000000 in
theorem rm4 (l : Launch) (Z : State) (a0 : Array Value) (hw : ∀ d ∈ tables_1, d.before a0 Z = true) (ws : List Jvm.Cond) (a1 : Addr) (p1 : Int32) (p2 : Int32) (p3 : Int32) (p4 : Int32) (h0 : Heap) (n0 : Nat) (Z0 : n0 ≤ h0.size) (g_a1 : n0 ≤ a1) (E1 : Exa Z h0 a1 "com/example/exemplum/exemplum/io/TextPosition") (F0 : Fld Z h0 a1 "com/example/exemplum/exemplum/io/TextPosition" "line" "I" (.int p2)) (F1 : Fld Z h0 a1 "com/example/exemplum/exemplum/io/TextPosition" "column" "I" (.int p3)) (F2 : Fld Z h0 a1 "com/example/exemplum/exemplum/io/TextPosition" "afterCarriageReturn" "Z" (.int p4)) :
    MetFree l (⟨"com/example/exemplum/exemplum/io/TextPosition", "advance", "(I)V"⟩ : MethodName) (head1 (Jvm.Cond.code (⟨"com/example/exemplum/exemplum/io/TextPosition", "advance", "(I)V"⟩ : MethodName) prog_26_method_2_code 2 none :: ws) ({ frames := 0, cells := 0, slots := 0, locals := 0 } : Room)) (fun a U => a = #[(.ref a1), (.int p1)] ∧ Z.Warmed39 U.vm ∧ U.heap = h0) (fun _ _ _ _ _ => True) (fun _ U o U' => ∃ v L, o = .returned v ∧ Q4 Z a1 p1 p2 p3 p4 h0 n0 v U'.heap L ∧ FrameEnd U o U' L ({ frames := 0, cells := 0, slots := 0, locals := 0 } : Room).cells ({ frames := 0, cells := 0, slots := 0, locals := 0 } : Room).slots) := by
  refine MetFree.of_bodySF (plainFor_of_name pn_2) hisR ?_
  intro p e s m args below meth c s₁ Bd hml0 hP hK
  obtain ⟨rfl, hZ, hh⟩ := hP
  have hx := Bd.exec
  have hby := Bd.bytes
  have hlk := Bd.notSynchronized
  have hml : c.maxLocals = 2 := hml0
  have hown : s.vm.findClass "com/example/exemplum/exemplum/io/TextPosition" = some m.cls := findClass_of_methodNamed Bd.named
  have hnm := (name_of_methodNamed Bd.named Bd.method).1
  have X0 : Stand p l e ({ frames := 0, cells := 0, slots := 0, locals := 0 } : Room) s m #[(.ref a1), (.int p1)] below meth c s₁ [] 0 0 := Stand.of_body Bd
  have e0 : s₁.heap = h0 := by rw [← hh, Bd.state]; rfl
  have N0 := Fr.nil n0
  show Goes p e below s 0 0 (Q4 Z a1 p1 p2 p3 p4 h0 n0) s₁ (entryFrame m #[(.ref a1), (.int p1)] 2)
  refine goEq (ef_4 m a1 p1) ?_
  refine go (T' := s₁) (g' := (mkF m 1 #[.val (.ref a1), .val (.int p1)] [(.int p1)])) (fun t kt => XS.iloadN X0.here hx rfl (hb hby d4_0) rfl kt) ?_
  refine go (T' := s₁) (g' := (mkF m 3 #[.val (.ref a1), .val (.int p1)] [(.int (10 : Int32)), (.int p1)])) (fun t kt => XS.bipush X0.here hx rfl (hb hby d4_1) kt) ?_
  by_cases hA10 : p1 = (10 : Int32)
  · refine go (T' := s₁) (g' := (mkF m 12 #[.val (.ref a1), .val (.int p1)] [])) (fun t kt => XS.icmpYes X0.here hx rfl (pc0 := 3) (pc' := 12) rfl (hb hby d4_3) rfl (teq hA10).1 (by decide) (by decide) kt) ?_
    have hA13 := own_1013 hA10
    refine go (T' := s₁) (g' := (mkF m 13 #[.val (.ref a1), .val (.int p1)] [(.int p1)])) (fun t kt => XS.iloadN X0.here hx rfl (hb hby d4_12) rfl kt) ?_
    refine go (T' := s₁) (g' := (mkF m 15 #[.val (.ref a1), .val (.int p1)] [(.int (13 : Int32)), (.int p1)])) (fun t kt => XS.bipush X0.here hx rfl (hb hby d4_13) kt) ?_
    refine go (T' := s₁) (g' := (mkF m 18 #[.val (.ref a1), .val (.int p1)] [])) (fun t kt => XS.icmpNo X0.here hx rfl (hb hby d4_15) rfl (feq hA13).1 kt) ?_
    refine go (T' := s₁) (g' := (mkF m 19 #[.val (.ref a1), .val (.int p1)] [(.ref a1)])) (fun t kt => XS.aloadN X0.here hx rfl (hb hby d4_18) rfl rfl kt) ?_
    obtain ⟨T1006, X1006, e1006, st1006⟩ := getF X0 hx hZ hown (host := "") (Or.inl (hw _ (List.mem_of_getElem? (i := 22) rfl))) Via.refl e0 F2 (g := (mkF m 19 #[.val (.ref a1), .val (.int p1)] [(.ref a1)])) rfl rfl (hb hby d4_19)
    refine go (T' := T1006) (g' := (mkF m 22 #[.val (.ref a1), .val (.int p1)] [(.int p4)])) st1006 ?_
    by_cases hf : p4 = (0 : Int32)
    · refine go (T' := T1006) (g' := (mkF m 25 #[.val (.ref a1), .val (.int p1)] [])) (fun t kt => XS.ifNo X1006.here hx rfl (hb hby d4_22) rfl ((if0 _ _).trans (teq hf).2) kt) ?_
      refine go (T' := T1006) (g' := (mkF m 26 #[.val (.ref a1), .val (.int p1)] [(.ref a1)])) (fun t kt => XS.aloadN X1006.here hx rfl (hb hby d4_25) rfl rfl kt) ?_
      refine go (T' := T1006) (g' := (mkF m 27 #[.val (.ref a1), .val (.int p1)] [(.ref a1), (.ref a1)])) (fun t kt => XS.dup X1006.here hx rfl (hb hby d4_26) rfl rfl kt) ?_
      obtain ⟨T1007, X1007, e1007, st1007⟩ := getF X1006 hx hZ hown (host := "") (Or.inl (hw _ (List.mem_of_getElem? (i := 13) rfl))) Via.refl e1006 F0 (g := (mkF m 27 #[.val (.ref a1), .val (.int p1)] [(.ref a1), (.ref a1)])) rfl rfl (hb hby d4_27)
      refine go (T' := T1007) (g' := (mkF m 30 #[.val (.ref a1), .val (.int p1)] [(.int p2), (.ref a1)])) st1007 ?_
      refine go (T' := T1007) (g' := (mkF m 31 #[.val (.ref a1), .val (.int p1)] [(.int (1 : Int32)), (.int p2), (.ref a1)])) (fun t kt => XS.iconst X1007.here hx rfl (hb hby d4_30) kt) ?_
      refine go (T' := T1007) (g' := (mkF m 32 #[.val (.ref a1), .val (.int p1)] [(.int (p2 + (1 : Int32))), (.ref a1)])) (fun t kt => XS.iadd X1007.here hx rfl (hb hby d4_31) rfl kt) ?_
      obtain ⟨T1008, h1008, X1008, e1008, W1008, st1008⟩ := putF X1007 hx hZ hown (host := "") (Or.inl (hw _ (List.mem_of_getElem? (i := 13) rfl))) Via.refl e1007 F0 E1 (Or.inl (hw _ (List.mem_of_getElem? (i := 14) rfl))) (hw _ (List.mem_of_getElem? (i := 5) rfl)) (ty := .int) (by decide) rfl rfl (g := (mkF m 32 #[.val (.ref a1), .val (.int p1)] [(.int (p2 + (1 : Int32))), (.ref a1)])) rfl rfl (hb hby d4_32)
      have z1008 : n0 ≤ h1008.size := Nat.le_trans Z0 (Keep.of_wr W1008).1
      have fE_a1_1008 : Exa Z h1008 a1 "com/example/exemplum/exemplum/io/TextPosition" := E1.wr W1008
      have fF_a1_column_1008 : Fld Z h1008 a1 "com/example/exemplum/exemplum/io/TextPosition" "column" "I" (.int p3) := F1.other W1008 (Or.inr (slot_ne (Or.inl (hw _ (List.mem_of_getElem? (i := 16) rfl))) (Or.inl (hw _ (List.mem_of_getElem? (i := 14) rfl))) (by decide) (t := .int) (t' := .int) (by decide) (by decide)))
      have fF_a1_afterCarriageReturn_1008 : Fld Z h1008 a1 "com/example/exemplum/exemplum/io/TextPosition" "afterCarriageReturn" "Z" (.int p4) := F2.other W1008 (Or.inr (slot_ne (Or.inl (hw _ (List.mem_of_getElem? (i := 23) rfl))) (Or.inl (hw _ (List.mem_of_getElem? (i := 14) rfl))) (by decide) (t := .boolean) (t' := .int) (by decide) (by decide)))
      have Fw1008 : Fld Z h1008 a1 "com/example/exemplum/exemplum/io/TextPosition" "line" "I" (.int (p2 + (1 : Int32))) := F0.same W1008
      have K1008 : Keep h0 h1008 [a1] := (Keep.refl h0 [a1]).wr W1008 (Or.inl (List.mem_of_getElem? (i := 0) rfl))
      have N1008 := Fr.snoc X1008 N0 g_a1
      refine go (T' := T1008) (g' := (mkF m 35 #[.val (.ref a1), .val (.int p1)] [])) st1008 ?_
      refine go (T' := T1008) (g' := (mkF m 36 #[.val (.ref a1), .val (.int p1)] [(.ref a1)])) (fun t kt => XS.aloadN X1008.here hx rfl (hb hby d4_35) rfl rfl kt) ?_
      refine go (T' := T1008) (g' := (mkF m 37 #[.val (.ref a1), .val (.int p1)] [(.int (1 : Int32)), (.ref a1)])) (fun t kt => XS.iconst X1008.here hx rfl (hb hby d4_36) kt) ?_
      obtain ⟨T1009, h1009, X1009, e1009, W1009, st1009⟩ := putF X1008 hx hZ hown (host := "") (Or.inl (hw _ (List.mem_of_getElem? (i := 15) rfl))) Via.refl e1008 fF_a1_column_1008 fE_a1_1008 (Or.inl (hw _ (List.mem_of_getElem? (i := 16) rfl))) (hw _ (List.mem_of_getElem? (i := 5) rfl)) (ty := .int) (by decide) rfl rfl (g := (mkF m 37 #[.val (.ref a1), .val (.int p1)] [(.int (1 : Int32)), (.ref a1)])) rfl rfl (hb hby d4_37)
      have z1009 : n0 ≤ h1009.size := Nat.le_trans z1008 (Keep.of_wr W1009).1
      have fE_a1_1009 : Exa Z h1009 a1 "com/example/exemplum/exemplum/io/TextPosition" := fE_a1_1008.wr W1009
      have fF_a1_line_1009 : Fld Z h1009 a1 "com/example/exemplum/exemplum/io/TextPosition" "line" "I" (.int (p2 + (1 : Int32))) := Fw1008.other W1009 (Or.inr (slot_ne (Or.inl (hw _ (List.mem_of_getElem? (i := 14) rfl))) (Or.inl (hw _ (List.mem_of_getElem? (i := 16) rfl))) (by decide) (t := .int) (t' := .int) (by decide) (by decide)))
      have fF_a1_afterCarriageReturn_1009 : Fld Z h1009 a1 "com/example/exemplum/exemplum/io/TextPosition" "afterCarriageReturn" "Z" (.int p4) := fF_a1_afterCarriageReturn_1008.other W1009 (Or.inr (slot_ne (Or.inl (hw _ (List.mem_of_getElem? (i := 23) rfl))) (Or.inl (hw _ (List.mem_of_getElem? (i := 16) rfl))) (by decide) (t := .boolean) (t' := .int) (by decide) (by decide)))
      have Fw1009 : Fld Z h1009 a1 "com/example/exemplum/exemplum/io/TextPosition" "column" "I" (.int (1 : Int32)) := fF_a1_column_1008.same W1009
      have K1009 : Keep h0 h1009 [a1] := K1008.wr W1009 (Or.inl (List.mem_of_getElem? (i := 0) rfl))
      have N1009 := Fr.snoc X1009 N1008 g_a1
      refine go (T' := T1009) (g' := (mkF m 40 #[.val (.ref a1), .val (.int p1)] [])) st1009 ?_
      refine go (T' := T1009) (g' := (mkF m 53 #[.val (.ref a1), .val (.int p1)] [])) (fun t kt => XS.goto X1009.here hx rfl (pc0 := 40) (pc' := 53) rfl (hb hby d4_40) (by decide) (by decide) kt) ?_
      refine go (T' := T1009) (g' := (mkF m 54 #[.val (.ref a1), .val (.int p1)] [(.ref a1)])) (fun t kt => XS.aloadN X1009.here hx rfl (hb hby d4_53) rfl rfl kt) ?_
      refine go (T' := T1009) (g' := (mkF m 55 #[.val (.ref a1), .val (.int p1)] [(.int p1), (.ref a1)])) (fun t kt => XS.iloadN X1009.here hx rfl (hb hby d4_54) rfl kt) ?_
      refine go (T' := T1009) (g' := (mkF m 57 #[.val (.ref a1), .val (.int p1)] [(.int (13 : Int32)), (.int p1), (.ref a1)])) (fun t kt => XS.bipush X1009.here hx rfl (hb hby d4_55) kt) ?_
      refine go (T' := T1009) (g' := (mkF m 64 #[.val (.ref a1), .val (.int p1)] [(.ref a1)])) (fun t kt => XS.icmpYes X1009.here hx rfl (pc0 := 57) (pc' := 64) rfl (hb hby d4_57) rfl (feq hA13).2 (by decide) (by decide) kt) ?_
      refine go (T' := T1009) (g' := (mkF m 65 #[.val (.ref a1), .val (.int p1)] [(.int (0 : Int32)), (.ref a1)])) (fun t kt => XS.iconst X1009.here hx rfl (hb hby d4_64) kt) ?_
      obtain ⟨T1010, h1010, X1010, e1010, W1010, st1010⟩ := putFN X1009 hx hZ hown (hw _ (List.mem_of_getElem? (i := 22) rfl)) Via.refl e1009 fF_a1_afterCarriageReturn_1009 fE_a1_1009 (Or.inl (hw _ (List.mem_of_getElem? (i := 23) rfl))) (hw _ (List.mem_of_getElem? (i := 5) rfl)) (ty := .boolean) (v' := (.int (nar .boolean (0 : Int32)))) (by decide) rfl (fits_nar_bool _) (g := (mkF m 65 #[.val (.ref a1), .val (.int p1)] [(.int (0 : Int32)), (.ref a1)])) rfl rfl (hb hby d4_65)
      have z1010 : n0 ≤ h1010.size := Nat.le_trans z1009 (Keep.of_wr W1010).1
      have fE_a1_1010 : Exa Z h1010 a1 "com/example/exemplum/exemplum/io/TextPosition" := fE_a1_1009.wr W1010
      have fF_a1_line_1010 : Fld Z h1010 a1 "com/example/exemplum/exemplum/io/TextPosition" "line" "I" (.int (p2 + (1 : Int32))) := fF_a1_line_1009.other W1010 (Or.inr (slot_ne (Or.inl (hw _ (List.mem_of_getElem? (i := 14) rfl))) (Or.inl (hw _ (List.mem_of_getElem? (i := 23) rfl))) (by decide) (t := .int) (t' := .boolean) (by decide) (by decide)))
      have fF_a1_column_1010 : Fld Z h1010 a1 "com/example/exemplum/exemplum/io/TextPosition" "column" "I" (.int (1 : Int32)) := Fw1009.other W1010 (Or.inr (slot_ne (Or.inl (hw _ (List.mem_of_getElem? (i := 16) rfl))) (Or.inl (hw _ (List.mem_of_getElem? (i := 23) rfl))) (by decide) (t := .int) (t' := .boolean) (by decide) (by decide)))
      have Fw1010 : Fld Z h1010 a1 "com/example/exemplum/exemplum/io/TextPosition" "afterCarriageReturn" "Z" (.int (nar .boolean (0 : Int32))) := fF_a1_afterCarriageReturn_1009.same W1010
      have K1010 : Keep h0 h1010 [a1] := K1009.wr W1010 (Or.inl (List.mem_of_getElem? (i := 0) rfl))
      have N1010 := Fr.snoc X1010 N1009 g_a1
      refine go (T' := T1010) (g' := (mkF m 68 #[.val (.ref a1), .val (.int p1)] [])) st1010 ?_
      refine goRetV X1010 hx hlk Bd.returns (hb hby d4_68) ?_ (by decide) (by decide)
      rw [e1010]
      exact ⟨rfl, N1010, K1010, by rw [show own_line p2 p1 p4 = p2 + 1 from by rw [own_line, if_neg hA13, if_pos hA10, if_pos hf]]; exact fF_a1_line_1010, by rw [show own_col p3 p1 = 1 from by rw [own_col, if_pos (Or.inl hA10)]]; exact fF_a1_column_1010, by rw [show own_cr p1 = nar .boolean 0 from by rw [own_cr, if_neg hA13]; rfl]; exact Fw1010⟩
    · refine go (T' := T1006) (g' := (mkF m 35 #[.val (.ref a1), .val (.int p1)] [])) (fun t kt => XS.ifYes X1006.here hx rfl (pc0 := 22) (pc' := 35) rfl (hb hby d4_22) rfl ((if0 _ _).trans (feq hf).2) (by decide) (by decide) kt) ?_
      refine go (T' := T1006) (g' := (mkF m 36 #[.val (.ref a1), .val (.int p1)] [(.ref a1)])) (fun t kt => XS.aloadN X1006.here hx rfl (hb hby d4_35) rfl rfl kt) ?_
      refine go (T' := T1006) (g' := (mkF m 37 #[.val (.ref a1), .val (.int p1)] [(.int (1 : Int32)), (.ref a1)])) (fun t kt => XS.iconst X1006.here hx rfl (hb hby d4_36) kt) ?_
      obtain ⟨T1011, h1011, X1011, e1011, W1011, st1011⟩ := putF X1006 hx hZ hown (host := "") (Or.inl (hw _ (List.mem_of_getElem? (i := 15) rfl))) Via.refl e1006 F1 E1 (Or.inl (hw _ (List.mem_of_getElem? (i := 16) rfl))) (hw _ (List.mem_of_getElem? (i := 5) rfl)) (ty := .int) (by decide) rfl rfl (g := (mkF m 37 #[.val (.ref a1), .val (.int p1)] [(.int (1 : Int32)), (.ref a1)])) rfl rfl (hb hby d4_37)
      have z1011 : n0 ≤ h1011.size := Nat.le_trans Z0 (Keep.of_wr W1011).1
      have fE_a1_1011 : Exa Z h1011 a1 "com/example/exemplum/exemplum/io/TextPosition" := E1.wr W1011
      have fF_a1_line_1011 : Fld Z h1011 a1 "com/example/exemplum/exemplum/io/TextPosition" "line" "I" (.int p2) := F0.other W1011 (Or.inr (slot_ne (Or.inl (hw _ (List.mem_of_getElem? (i := 14) rfl))) (Or.inl (hw _ (List.mem_of_getElem? (i := 16) rfl))) (by decide) (t := .int) (t' := .int) (by decide) (by decide)))
      have fF_a1_afterCarriageReturn_1011 : Fld Z h1011 a1 "com/example/exemplum/exemplum/io/TextPosition" "afterCarriageReturn" "Z" (.int p4) := F2.other W1011 (Or.inr (slot_ne (Or.inl (hw _ (List.mem_of_getElem? (i := 23) rfl))) (Or.inl (hw _ (List.mem_of_getElem? (i := 16) rfl))) (by decide) (t := .boolean) (t' := .int) (by decide) (by decide)))
      have Fw1011 : Fld Z h1011 a1 "com/example/exemplum/exemplum/io/TextPosition" "column" "I" (.int (1 : Int32)) := F1.same W1011
      have K1011 : Keep h0 h1011 [a1] := (Keep.refl h0 [a1]).wr W1011 (Or.inl (List.mem_of_getElem? (i := 0) rfl))
      have N1011 := Fr.snoc X1011 N0 g_a1
      refine go (T' := T1011) (g' := (mkF m 40 #[.val (.ref a1), .val (.int p1)] [])) st1011 ?_
      refine go (T' := T1011) (g' := (mkF m 53 #[.val (.ref a1), .val (.int p1)] [])) (fun t kt => XS.goto X1011.here hx rfl (pc0 := 40) (pc' := 53) rfl (hb hby d4_40) (by decide) (by decide) kt) ?_
      refine go (T' := T1011) (g' := (mkF m 54 #[.val (.ref a1), .val (.int p1)] [(.ref a1)])) (fun t kt => XS.aloadN X1011.here hx rfl (hb hby d4_53) rfl rfl kt) ?_
      refine go (T' := T1011) (g' := (mkF m 55 #[.val (.ref a1), .val (.int p1)] [(.int p1), (.ref a1)])) (fun t kt => XS.iloadN X1011.here hx rfl (hb hby d4_54) rfl kt) ?_
      refine go (T' := T1011) (g' := (mkF m 57 #[.val (.ref a1), .val (.int p1)] [(.int (13 : Int32)), (.int p1), (.ref a1)])) (fun t kt => XS.bipush X1011.here hx rfl (hb hby d4_55) kt) ?_
      refine go (T' := T1011) (g' := (mkF m 64 #[.val (.ref a1), .val (.int p1)] [(.ref a1)])) (fun t kt => XS.icmpYes X1011.here hx rfl (pc0 := 57) (pc' := 64) rfl (hb hby d4_57) rfl (feq hA13).2 (by decide) (by decide) kt) ?_
      refine go (T' := T1011) (g' := (mkF m 65 #[.val (.ref a1), .val (.int p1)] [(.int (0 : Int32)), (.ref a1)])) (fun t kt => XS.iconst X1011.here hx rfl (hb hby d4_64) kt) ?_
      obtain ⟨T1012, h1012, X1012, e1012, W1012, st1012⟩ := putFN X1011 hx hZ hown (hw _ (List.mem_of_getElem? (i := 22) rfl)) Via.refl e1011 fF_a1_afterCarriageReturn_1011 fE_a1_1011 (Or.inl (hw _ (List.mem_of_getElem? (i := 23) rfl))) (hw _ (List.mem_of_getElem? (i := 5) rfl)) (ty := .boolean) (v' := (.int (nar .boolean (0 : Int32)))) (by decide) rfl (fits_nar_bool _) (g := (mkF m 65 #[.val (.ref a1), .val (.int p1)] [(.int (0 : Int32)), (.ref a1)])) rfl rfl (hb hby d4_65)
      have z1012 : n0 ≤ h1012.size := Nat.le_trans z1011 (Keep.of_wr W1012).1
      have fE_a1_1012 : Exa Z h1012 a1 "com/example/exemplum/exemplum/io/TextPosition" := fE_a1_1011.wr W1012
      have fF_a1_line_1012 : Fld Z h1012 a1 "com/example/exemplum/exemplum/io/TextPosition" "line" "I" (.int p2) := fF_a1_line_1011.other W1012 (Or.inr (slot_ne (Or.inl (hw _ (List.mem_of_getElem? (i := 14) rfl))) (Or.inl (hw _ (List.mem_of_getElem? (i := 23) rfl))) (by decide) (t := .int) (t' := .boolean) (by decide) (by decide)))
      have fF_a1_column_1012 : Fld Z h1012 a1 "com/example/exemplum/exemplum/io/TextPosition" "column" "I" (.int (1 : Int32)) := Fw1011.other W1012 (Or.inr (slot_ne (Or.inl (hw _ (List.mem_of_getElem? (i := 16) rfl))) (Or.inl (hw _ (List.mem_of_getElem? (i := 23) rfl))) (by decide) (t := .int) (t' := .boolean) (by decide) (by decide)))
      have Fw1012 : Fld Z h1012 a1 "com/example/exemplum/exemplum/io/TextPosition" "afterCarriageReturn" "Z" (.int (nar .boolean (0 : Int32))) := fF_a1_afterCarriageReturn_1011.same W1012
      have K1012 : Keep h0 h1012 [a1] := K1011.wr W1012 (Or.inl (List.mem_of_getElem? (i := 0) rfl))
      have N1012 := Fr.snoc X1012 N1011 g_a1
      refine go (T' := T1012) (g' := (mkF m 68 #[.val (.ref a1), .val (.int p1)] [])) st1012 ?_
      refine goRetV X1012 hx hlk Bd.returns (hb hby d4_68) ?_ (by decide) (by decide)
      rw [e1012]
      exact ⟨rfl, N1012, K1012, by rw [show own_line p2 p1 p4 = p2 from by rw [own_line, if_neg hA13, if_pos hA10, if_neg hf]]; exact fF_a1_line_1012, by rw [show own_col p3 p1 = 1 from by rw [own_col, if_pos (Or.inl hA10)]]; exact fF_a1_column_1012, by rw [show own_cr p1 = nar .boolean 0 from by rw [own_cr, if_neg hA13]; rfl]; exact Fw1012⟩
  · refine go (T' := s₁) (g' := (mkF m 6 #[.val (.ref a1), .val (.int p1)] [])) (fun t kt => XS.icmpNo X0.here hx rfl (hb hby d4_3) rfl (feq hA10).1 kt) ?_
    refine go (T' := s₁) (g' := (mkF m 7 #[.val (.ref a1), .val (.int p1)] [(.int p1)])) (fun t kt => XS.iloadN X0.here hx rfl (hb hby d4_6) rfl kt) ?_
    refine go (T' := s₁) (g' := (mkF m 9 #[.val (.ref a1), .val (.int p1)] [(.int (13 : Int32)), (.int p1)])) (fun t kt => XS.bipush X0.here hx rfl (hb hby d4_7) kt) ?_
    by_cases hA13 : p1 = (13 : Int32)
    · refine go (T' := s₁) (g' := (mkF m 12 #[.val (.ref a1), .val (.int p1)] [])) (fun t kt => XS.icmpNo X0.here hx rfl (hb hby d4_9) rfl (teq hA13).2 kt) ?_
      refine go (T' := s₁) (g' := (mkF m 13 #[.val (.ref a1), .val (.int p1)] [(.int p1)])) (fun t kt => XS.iloadN X0.here hx rfl (hb hby d4_12) rfl kt) ?_
      refine go (T' := s₁) (g' := (mkF m 15 #[.val (.ref a1), .val (.int p1)] [(.int (13 : Int32)), (.int p1)])) (fun t kt => XS.bipush X0.here hx rfl (hb hby d4_13) kt) ?_
      refine go (T' := s₁) (g' := (mkF m 25 #[.val (.ref a1), .val (.int p1)] [])) (fun t kt => XS.icmpYes X0.here hx rfl (pc0 := 15) (pc' := 25) rfl (hb hby d4_15) rfl (teq hA13).1 (by decide) (by decide) kt) ?_
      refine go (T' := s₁) (g' := (mkF m 26 #[.val (.ref a1), .val (.int p1)] [(.ref a1)])) (fun t kt => XS.aloadN X0.here hx rfl (hb hby d4_25) rfl rfl kt) ?_
      refine go (T' := s₁) (g' := (mkF m 27 #[.val (.ref a1), .val (.int p1)] [(.ref a1), (.ref a1)])) (fun t kt => XS.dup X0.here hx rfl (hb hby d4_26) rfl rfl kt) ?_
      obtain ⟨T1013, X1013, e1013, st1013⟩ := getF X0 hx hZ hown (host := "") (Or.inl (hw _ (List.mem_of_getElem? (i := 13) rfl))) Via.refl e0 F0 (g := (mkF m 27 #[.val (.ref a1), .val (.int p1)] [(.ref a1), (.ref a1)])) rfl rfl (hb hby d4_27)
      refine go (T' := T1013) (g' := (mkF m 30 #[.val (.ref a1), .val (.int p1)] [(.int p2), (.ref a1)])) st1013 ?_
      refine go (T' := T1013) (g' := (mkF m 31 #[.val (.ref a1), .val (.int p1)] [(.int (1 : Int32)), (.int p2), (.ref a1)])) (fun t kt => XS.iconst X1013.here hx rfl (hb hby d4_30) kt) ?_
      refine go (T' := T1013) (g' := (mkF m 32 #[.val (.ref a1), .val (.int p1)] [(.int (p2 + (1 : Int32))), (.ref a1)])) (fun t kt => XS.iadd X1013.here hx rfl (hb hby d4_31) rfl kt) ?_
      obtain ⟨T1014, h1014, X1014, e1014, W1014, st1014⟩ := putF X1013 hx hZ hown (host := "") (Or.inl (hw _ (List.mem_of_getElem? (i := 13) rfl))) Via.refl e1013 F0 E1 (Or.inl (hw _ (List.mem_of_getElem? (i := 14) rfl))) (hw _ (List.mem_of_getElem? (i := 5) rfl)) (ty := .int) (by decide) rfl rfl (g := (mkF m 32 #[.val (.ref a1), .val (.int p1)] [(.int (p2 + (1 : Int32))), (.ref a1)])) rfl rfl (hb hby d4_32)
      have z1014 : n0 ≤ h1014.size := Nat.le_trans Z0 (Keep.of_wr W1014).1
      have fE_a1_1014 : Exa Z h1014 a1 "com/example/exemplum/exemplum/io/TextPosition" := E1.wr W1014
      have fF_a1_column_1014 : Fld Z h1014 a1 "com/example/exemplum/exemplum/io/TextPosition" "column" "I" (.int p3) := F1.other W1014 (Or.inr (slot_ne (Or.inl (hw _ (List.mem_of_getElem? (i := 16) rfl))) (Or.inl (hw _ (List.mem_of_getElem? (i := 14) rfl))) (by decide) (t := .int) (t' := .int) (by decide) (by decide)))
      have fF_a1_afterCarriageReturn_1014 : Fld Z h1014 a1 "com/example/exemplum/exemplum/io/TextPosition" "afterCarriageReturn" "Z" (.int p4) := F2.other W1014 (Or.inr (slot_ne (Or.inl (hw _ (List.mem_of_getElem? (i := 23) rfl))) (Or.inl (hw _ (List.mem_of_getElem? (i := 14) rfl))) (by decide) (t := .boolean) (t' := .int) (by decide) (by decide)))
      have Fw1014 : Fld Z h1014 a1 "com/example/exemplum/exemplum/io/TextPosition" "line" "I" (.int (p2 + (1 : Int32))) := F0.same W1014
      have K1014 : Keep h0 h1014 [a1] := (Keep.refl h0 [a1]).wr W1014 (Or.inl (List.mem_of_getElem? (i := 0) rfl))
      have N1014 := Fr.snoc X1014 N0 g_a1
      refine go (T' := T1014) (g' := (mkF m 35 #[.val (.ref a1), .val (.int p1)] [])) st1014 ?_
      refine go (T' := T1014) (g' := (mkF m 36 #[.val (.ref a1), .val (.int p1)] [(.ref a1)])) (fun t kt => XS.aloadN X1014.here hx rfl (hb hby d4_35) rfl rfl kt) ?_
      refine go (T' := T1014) (g' := (mkF m 37 #[.val (.ref a1), .val (.int p1)] [(.int (1 : Int32)), (.ref a1)])) (fun t kt => XS.iconst X1014.here hx rfl (hb hby d4_36) kt) ?_
      obtain ⟨T1015, h1015, X1015, e1015, W1015, st1015⟩ := putF X1014 hx hZ hown (host := "") (Or.inl (hw _ (List.mem_of_getElem? (i := 15) rfl))) Via.refl e1014 fF_a1_column_1014 fE_a1_1014 (Or.inl (hw _ (List.mem_of_getElem? (i := 16) rfl))) (hw _ (List.mem_of_getElem? (i := 5) rfl)) (ty := .int) (by decide) rfl rfl (g := (mkF m 37 #[.val (.ref a1), .val (.int p1)] [(.int (1 : Int32)), (.ref a1)])) rfl rfl (hb hby d4_37)
      have z1015 : n0 ≤ h1015.size := Nat.le_trans z1014 (Keep.of_wr W1015).1
      have fE_a1_1015 : Exa Z h1015 a1 "com/example/exemplum/exemplum/io/TextPosition" := fE_a1_1014.wr W1015
      have fF_a1_line_1015 : Fld Z h1015 a1 "com/example/exemplum/exemplum/io/TextPosition" "line" "I" (.int (p2 + (1 : Int32))) := Fw1014.other W1015 (Or.inr (slot_ne (Or.inl (hw _ (List.mem_of_getElem? (i := 14) rfl))) (Or.inl (hw _ (List.mem_of_getElem? (i := 16) rfl))) (by decide) (t := .int) (t' := .int) (by decide) (by decide)))
      have fF_a1_afterCarriageReturn_1015 : Fld Z h1015 a1 "com/example/exemplum/exemplum/io/TextPosition" "afterCarriageReturn" "Z" (.int p4) := fF_a1_afterCarriageReturn_1014.other W1015 (Or.inr (slot_ne (Or.inl (hw _ (List.mem_of_getElem? (i := 23) rfl))) (Or.inl (hw _ (List.mem_of_getElem? (i := 16) rfl))) (by decide) (t := .boolean) (t' := .int) (by decide) (by decide)))
      have Fw1015 : Fld Z h1015 a1 "com/example/exemplum/exemplum/io/TextPosition" "column" "I" (.int (1 : Int32)) := fF_a1_column_1014.same W1015
      have K1015 : Keep h0 h1015 [a1] := K1014.wr W1015 (Or.inl (List.mem_of_getElem? (i := 0) rfl))
      have N1015 := Fr.snoc X1015 N1014 g_a1
      refine go (T' := T1015) (g' := (mkF m 40 #[.val (.ref a1), .val (.int p1)] [])) st1015 ?_
      refine go (T' := T1015) (g' := (mkF m 53 #[.val (.ref a1), .val (.int p1)] [])) (fun t kt => XS.goto X1015.here hx rfl (pc0 := 40) (pc' := 53) rfl (hb hby d4_40) (by decide) (by decide) kt) ?_
      refine go (T' := T1015) (g' := (mkF m 54 #[.val (.ref a1), .val (.int p1)] [(.ref a1)])) (fun t kt => XS.aloadN X1015.here hx rfl (hb hby d4_53) rfl rfl kt) ?_
      refine go (T' := T1015) (g' := (mkF m 55 #[.val (.ref a1), .val (.int p1)] [(.int p1), (.ref a1)])) (fun t kt => XS.iloadN X1015.here hx rfl (hb hby d4_54) rfl kt) ?_
      refine go (T' := T1015) (g' := (mkF m 57 #[.val (.ref a1), .val (.int p1)] [(.int (13 : Int32)), (.int p1), (.ref a1)])) (fun t kt => XS.bipush X1015.here hx rfl (hb hby d4_55) kt) ?_
      refine go (T' := T1015) (g' := (mkF m 60 #[.val (.ref a1), .val (.int p1)] [(.ref a1)])) (fun t kt => XS.icmpNo X1015.here hx rfl (hb hby d4_57) rfl (teq hA13).2 kt) ?_
      refine go (T' := T1015) (g' := (mkF m 61 #[.val (.ref a1), .val (.int p1)] [(.int (1 : Int32)), (.ref a1)])) (fun t kt => XS.iconst X1015.here hx rfl (hb hby d4_60) kt) ?_
      refine go (T' := T1015) (g' := (mkF m 65 #[.val (.ref a1), .val (.int p1)] [(.int (1 : Int32)), (.ref a1)])) (fun t kt => XS.goto X1015.here hx rfl (pc0 := 61) (pc' := 65) rfl (hb hby d4_61) (by decide) (by decide) kt) ?_
      obtain ⟨T1016, h1016, X1016, e1016, W1016, st1016⟩ := putFN X1015 hx hZ hown (hw _ (List.mem_of_getElem? (i := 22) rfl)) Via.refl e1015 fF_a1_afterCarriageReturn_1015 fE_a1_1015 (Or.inl (hw _ (List.mem_of_getElem? (i := 23) rfl))) (hw _ (List.mem_of_getElem? (i := 5) rfl)) (ty := .boolean) (v' := (.int (nar .boolean (1 : Int32)))) (by decide) rfl (fits_nar_bool _) (g := (mkF m 65 #[.val (.ref a1), .val (.int p1)] [(.int (1 : Int32)), (.ref a1)])) rfl rfl (hb hby d4_65)
      have z1016 : n0 ≤ h1016.size := Nat.le_trans z1015 (Keep.of_wr W1016).1
      have fE_a1_1016 : Exa Z h1016 a1 "com/example/exemplum/exemplum/io/TextPosition" := fE_a1_1015.wr W1016
      have fF_a1_line_1016 : Fld Z h1016 a1 "com/example/exemplum/exemplum/io/TextPosition" "line" "I" (.int (p2 + (1 : Int32))) := fF_a1_line_1015.other W1016 (Or.inr (slot_ne (Or.inl (hw _ (List.mem_of_getElem? (i := 14) rfl))) (Or.inl (hw _ (List.mem_of_getElem? (i := 23) rfl))) (by decide) (t := .int) (t' := .boolean) (by decide) (by decide)))
      have fF_a1_column_1016 : Fld Z h1016 a1 "com/example/exemplum/exemplum/io/TextPosition" "column" "I" (.int (1 : Int32)) := Fw1015.other W1016 (Or.inr (slot_ne (Or.inl (hw _ (List.mem_of_getElem? (i := 16) rfl))) (Or.inl (hw _ (List.mem_of_getElem? (i := 23) rfl))) (by decide) (t := .int) (t' := .boolean) (by decide) (by decide)))
      have Fw1016 : Fld Z h1016 a1 "com/example/exemplum/exemplum/io/TextPosition" "afterCarriageReturn" "Z" (.int (nar .boolean (1 : Int32))) := fF_a1_afterCarriageReturn_1015.same W1016
      have K1016 : Keep h0 h1016 [a1] := K1015.wr W1016 (Or.inl (List.mem_of_getElem? (i := 0) rfl))
      have N1016 := Fr.snoc X1016 N1015 g_a1
      refine go (T' := T1016) (g' := (mkF m 68 #[.val (.ref a1), .val (.int p1)] [])) st1016 ?_
      refine goRetV X1016 hx hlk Bd.returns (hb hby d4_68) ?_ (by decide) (by decide)
      rw [e1016]
      exact ⟨rfl, N1016, K1016, by rw [show own_line p2 p1 p4 = p2 + 1 from by rw [own_line, if_pos hA13]]; exact fF_a1_line_1016, by rw [show own_col p3 p1 = 1 from by rw [own_col, if_pos (Or.inr hA13)]]; exact fF_a1_column_1016, by rw [show own_cr p1 = nar .boolean 1 from by rw [own_cr, if_pos hA13]; rfl]; exact Fw1016⟩
    · refine go (T' := s₁) (g' := (mkF m 43 #[.val (.ref a1), .val (.int p1)] [])) (fun t kt => XS.icmpYes X0.here hx rfl (pc0 := 9) (pc' := 43) rfl (hb hby d4_9) rfl (feq hA13).2 (by decide) (by decide) kt) ?_
      refine go (T' := s₁) (g' := (mkF m 44 #[.val (.ref a1), .val (.int p1)] [(.ref a1)])) (fun t kt => XS.aloadN X0.here hx rfl (hb hby d4_43) rfl rfl kt) ?_
      refine go (T' := s₁) (g' := (mkF m 45 #[.val (.ref a1), .val (.int p1)] [(.ref a1), (.ref a1)])) (fun t kt => XS.dup X0.here hx rfl (hb hby d4_44) rfl rfl kt) ?_
      obtain ⟨T1017, X1017, e1017, st1017⟩ := getF X0 hx hZ hown (host := "") (Or.inl (hw _ (List.mem_of_getElem? (i := 15) rfl))) Via.refl e0 F1 (g := (mkF m 45 #[.val (.ref a1), .val (.int p1)] [(.ref a1), (.ref a1)])) rfl rfl (hb hby d4_45)
      refine go (T' := T1017) (g' := (mkF m 48 #[.val (.ref a1), .val (.int p1)] [(.int p3), (.ref a1)])) st1017 ?_
      refine go (T' := T1017) (g' := (mkF m 49 #[.val (.ref a1), .val (.int p1)] [(.int (1 : Int32)), (.int p3), (.ref a1)])) (fun t kt => XS.iconst X1017.here hx rfl (hb hby d4_48) kt) ?_
      refine go (T' := T1017) (g' := (mkF m 50 #[.val (.ref a1), .val (.int p1)] [(.int (p3 + (1 : Int32))), (.ref a1)])) (fun t kt => XS.iadd X1017.here hx rfl (hb hby d4_49) rfl kt) ?_
      obtain ⟨T1018, h1018, X1018, e1018, W1018, st1018⟩ := putF X1017 hx hZ hown (host := "") (Or.inl (hw _ (List.mem_of_getElem? (i := 15) rfl))) Via.refl e1017 F1 E1 (Or.inl (hw _ (List.mem_of_getElem? (i := 16) rfl))) (hw _ (List.mem_of_getElem? (i := 5) rfl)) (ty := .int) (by decide) rfl rfl (g := (mkF m 50 #[.val (.ref a1), .val (.int p1)] [(.int (p3 + (1 : Int32))), (.ref a1)])) rfl rfl (hb hby d4_50)
      have z1018 : n0 ≤ h1018.size := Nat.le_trans Z0 (Keep.of_wr W1018).1
      have fE_a1_1018 : Exa Z h1018 a1 "com/example/exemplum/exemplum/io/TextPosition" := E1.wr W1018
      have fF_a1_line_1018 : Fld Z h1018 a1 "com/example/exemplum/exemplum/io/TextPosition" "line" "I" (.int p2) := F0.other W1018 (Or.inr (slot_ne (Or.inl (hw _ (List.mem_of_getElem? (i := 14) rfl))) (Or.inl (hw _ (List.mem_of_getElem? (i := 16) rfl))) (by decide) (t := .int) (t' := .int) (by decide) (by decide)))
      have fF_a1_afterCarriageReturn_1018 : Fld Z h1018 a1 "com/example/exemplum/exemplum/io/TextPosition" "afterCarriageReturn" "Z" (.int p4) := F2.other W1018 (Or.inr (slot_ne (Or.inl (hw _ (List.mem_of_getElem? (i := 23) rfl))) (Or.inl (hw _ (List.mem_of_getElem? (i := 16) rfl))) (by decide) (t := .boolean) (t' := .int) (by decide) (by decide)))
      have Fw1018 : Fld Z h1018 a1 "com/example/exemplum/exemplum/io/TextPosition" "column" "I" (.int (p3 + (1 : Int32))) := F1.same W1018
      have K1018 : Keep h0 h1018 [a1] := (Keep.refl h0 [a1]).wr W1018 (Or.inl (List.mem_of_getElem? (i := 0) rfl))
      have N1018 := Fr.snoc X1018 N0 g_a1
      refine go (T' := T1018) (g' := (mkF m 53 #[.val (.ref a1), .val (.int p1)] [])) st1018 ?_
      refine go (T' := T1018) (g' := (mkF m 54 #[.val (.ref a1), .val (.int p1)] [(.ref a1)])) (fun t kt => XS.aloadN X1018.here hx rfl (hb hby d4_53) rfl rfl kt) ?_
      refine go (T' := T1018) (g' := (mkF m 55 #[.val (.ref a1), .val (.int p1)] [(.int p1), (.ref a1)])) (fun t kt => XS.iloadN X1018.here hx rfl (hb hby d4_54) rfl kt) ?_
      refine go (T' := T1018) (g' := (mkF m 57 #[.val (.ref a1), .val (.int p1)] [(.int (13 : Int32)), (.int p1), (.ref a1)])) (fun t kt => XS.bipush X1018.here hx rfl (hb hby d4_55) kt) ?_
      refine go (T' := T1018) (g' := (mkF m 64 #[.val (.ref a1), .val (.int p1)] [(.ref a1)])) (fun t kt => XS.icmpYes X1018.here hx rfl (pc0 := 57) (pc' := 64) rfl (hb hby d4_57) rfl (feq hA13).2 (by decide) (by decide) kt) ?_
      refine go (T' := T1018) (g' := (mkF m 65 #[.val (.ref a1), .val (.int p1)] [(.int (0 : Int32)), (.ref a1)])) (fun t kt => XS.iconst X1018.here hx rfl (hb hby d4_64) kt) ?_
      obtain ⟨T1019, h1019, X1019, e1019, W1019, st1019⟩ := putFN X1018 hx hZ hown (hw _ (List.mem_of_getElem? (i := 22) rfl)) Via.refl e1018 fF_a1_afterCarriageReturn_1018 fE_a1_1018 (Or.inl (hw _ (List.mem_of_getElem? (i := 23) rfl))) (hw _ (List.mem_of_getElem? (i := 5) rfl)) (ty := .boolean) (v' := (.int (nar .boolean (0 : Int32)))) (by decide) rfl (fits_nar_bool _) (g := (mkF m 65 #[.val (.ref a1), .val (.int p1)] [(.int (0 : Int32)), (.ref a1)])) rfl rfl (hb hby d4_65)
      have z1019 : n0 ≤ h1019.size := Nat.le_trans z1018 (Keep.of_wr W1019).1
      have fE_a1_1019 : Exa Z h1019 a1 "com/example/exemplum/exemplum/io/TextPosition" := fE_a1_1018.wr W1019
      have fF_a1_line_1019 : Fld Z h1019 a1 "com/example/exemplum/exemplum/io/TextPosition" "line" "I" (.int p2) := fF_a1_line_1018.other W1019 (Or.inr (slot_ne (Or.inl (hw _ (List.mem_of_getElem? (i := 14) rfl))) (Or.inl (hw _ (List.mem_of_getElem? (i := 23) rfl))) (by decide) (t := .int) (t' := .boolean) (by decide) (by decide)))
      have fF_a1_column_1019 : Fld Z h1019 a1 "com/example/exemplum/exemplum/io/TextPosition" "column" "I" (.int (p3 + (1 : Int32))) := Fw1018.other W1019 (Or.inr (slot_ne (Or.inl (hw _ (List.mem_of_getElem? (i := 16) rfl))) (Or.inl (hw _ (List.mem_of_getElem? (i := 23) rfl))) (by decide) (t := .int) (t' := .boolean) (by decide) (by decide)))
      have Fw1019 : Fld Z h1019 a1 "com/example/exemplum/exemplum/io/TextPosition" "afterCarriageReturn" "Z" (.int (nar .boolean (0 : Int32))) := fF_a1_afterCarriageReturn_1018.same W1019
      have K1019 : Keep h0 h1019 [a1] := K1018.wr W1019 (Or.inl (List.mem_of_getElem? (i := 0) rfl))
      have N1019 := Fr.snoc X1019 N1018 g_a1
      refine go (T' := T1019) (g' := (mkF m 68 #[.val (.ref a1), .val (.int p1)] [])) st1019 ?_
      refine goRetV X1019 hx hlk Bd.returns (hb hby d4_68) ?_ (by decide) (by decide)
      rw [e1019]
      exact ⟨rfl, N1019, K1019, by rw [show own_line p2 p1 p4 = p2 from by rw [own_line, if_neg hA13, if_neg hA10]]; exact fF_a1_line_1019, by rw [show own_col p3 p1 = p3 + 1 from by rw [own_col, if_neg (fun q => q.elim hA10 hA13)]]; exact fF_a1_column_1019, by rw [show own_cr p1 = nar .boolean 0 from by rw [own_cr, if_neg hA13]; rfl]; exact Fw1019⟩
theorem pd_0 : parseMethodDescriptor "(II)I" = some ⟨[.int, .int], some .int⟩ := by decide +kernel
theorem pd_1 : parseMethodDescriptor "(II)V" = some ⟨[.int, .int], none⟩ := by decide +kernel
theorem pd_2 : parseMethodDescriptor "(I)V" = some ⟨[.int], none⟩ := by decide +kernel
theorem pd_3 : parseMethodDescriptor "(IIZ)I" = some ⟨[.int, .int, .boolean], some .int⟩ := by decide +kernel
theorem pd_4 : parseMethodDescriptor "()I" = some ⟨[], some .int⟩ := by decide +kernel
theorem ef_0 (m : MethodId) (p1 : Int32) (p2 : Int32) (p3 : Int32) (p4 : Int32) (p5 : Int32) (p6 : Int32) : entryFrame m #[(.int p1), (.int p2), (.int p3), (.int p4), (.int p5), (.int p6)] maxLocals = mkF m 0 #[.val (.int p1), .val (.int p2), .val (.int p3), .val (.int p4), .val (.int p5), .val (.int p6), .unset, .unset, .unset, .unset, .unset, .unset, .unset] [] := by first | (simp [entryFrame, mkF, argsToLocals, Value.category, maxLocals]; done) | rfl
def Q0 (Z : State) (p1 : Int32) (p2 : Int32) (p3 : Int32) (p4 : Int32) (p5 : Int32) (p6 : Int32) (h0 : Heap) (n0 : Nat) (v : Option Value) (h : Heap) (L : List Loc) : Prop := v = some (.int 1) ∧ Fr n0 L
set_option maxRecDepth 65536 in
set_option maxHeartbeats 40000000 in
theorem rm0 (l : Launch) (Z : State) (a0 : Array Value) (hw : ∀ d ∈ tables_1, d.before a0 Z = true) (ws : List Jvm.Cond) (p1 : Int32) (p2 : Int32) (p3 : Int32) (p4 : Int32) (p5 : Int32) (p6 : Int32) (h0 : Heap) (n0 : Nat) (Z0 : n0 ≤ h0.size)  :
    MetFree l x (head1 (Jvm.Cond.code x code maxLocals ret :: ws) room_1) (fun a U => a = #[(.int p1), (.int p2), (.int p3), (.int p4), (.int p5), (.int p6)] ∧ Z.Warmed39 U.vm ∧ U.heap = h0) (fun _ _ _ _ _ => True) (fun _ U o U' => ∃ v L, o = .returned v ∧ Q0 Z p1 p2 p3 p4 p5 p6 h0 n0 v U'.heap L ∧ FrameEnd U o U' L 1 3) := by
  refine MetFree.of_bodySF (plainFor_of_name pn_1) hisR ?_
  intro p e s m args below meth c s₁ Bd hml0 hP hK
  obtain ⟨rfl, hZ, hh⟩ := hP
  have hx := Bd.exec
  have hby := Bd.bytes
  have hlk := Bd.notSynchronized
  have hml : c.maxLocals = 13 := hml0
  have hown : s.vm.findClass "com/example/exemplum/exemplum/io/TextPositionAdvancePinLaw" = some m.cls := findClass_of_methodNamed Bd.named
  have hnm := (name_of_methodNamed Bd.named Bd.method).1
  have X0 : Stand p l e room_1 s m #[(.int p1), (.int p2), (.int p3), (.int p4), (.int p5), (.int p6)] below meth c s₁ [] 0 0 := Stand.of_body Bd
  have e0 : s₁.heap = h0 := by rw [← hh, Bd.state]; rfl
  have N0 := Fr.nil n0
  show Goes p e below s 1 3 (Q0 Z p1 p2 p3 p4 p5 p6 h0 n0) s₁ (entryFrame m #[(.int p1), (.int p2), (.int p3), (.int p4), (.int p5), (.int p6)] maxLocals)
  refine goEq (ef_0 m p1 p2 p3 p4 p5 p6) ?_
  refine go (T' := s₁) (g' := (mkF m 2 #[.val (.int p1), .val (.int p2), .val (.int p3), .val (.int p4), .val (.int p5), .val (.int p6), .unset, .unset, .unset, .unset, .unset, .unset, .unset] [(.int p6)])) (fun t kt => XS.iload X0.here hx rfl (hb hby at_0) rfl kt) ?_
  refine go (T' := s₁) (g' := (mkF m 3 #[.val (.int p1), .val (.int p2), .val (.int p3), .val (.int p4), .val (.int p5), .val (.int p6), .unset, .unset, .unset, .unset, .unset, .unset, .unset] [(.int p3), (.int p6)])) (fun t kt => XS.iloadN X0.here hx rfl (hb hby at_2) rfl kt) ?_
  obtain ⟨_, _, ⟨T1020, L1020, k1020, n1020⟩, -, X1020, ⟨Lc1020, hQ1020, l1020, y1020, z1020⟩, st1020⟩ := Jvm.LawKit.callS X0 hx (y := (⟨"com/example/exemplum/exemplum/io/TextPositionAdvancePinLaw", "pick", "(II)I"⟩ : MethodName)) hown (mvT hZ (hw _ (List.mem_of_getElem? (i := 0) rfl))) (mvT hZ (hw _ (List.mem_of_getElem? (i := 1) rfl))) (mvT hZ (hw _ (List.mem_of_getElem? (i := 2) rfl))) (mvT hZ (hw _ (List.mem_of_getElem? (i := 3) rfl))) (by decide) (backOf (W := 0) (rm1 l Z a0 hw [] p6 p3 h0 n0 Z0) hZ (hw _ (List.mem_of_getElem? (i := 3) rfl)) (hw _ (List.mem_of_getElem? (i := 2) rfl)) (by decide) (by decide)) (g := (mkF m 3 #[.val (.int p1), .val (.int p2), .val (.int p3), .val (.int p4), .val (.int p5), .val (.int p6), .unset, .unset, .unset, .unset, .unset, .unset, .unset] [(.int p3), (.int p6)])) rfl (by rw [hml]; rfl) (argsL := [(.int p6), (.int p3)]) (rest := []) (lenOf pd_0 rfl) rfl (by show 2 * 0 + _ ≤ _; exact Nat.le_of_eq rfl) (hb hby at_3) (fun _ _ => ⟨rfl, e0, (by decide : 0 + 0 ≤ _), (by decide : 0 + 0 ≤ _)⟩)
  dsimp only [Pt.U, Pt.locs, Pt.cells, Pt.slots] at X1020 l1020 y1020 z1020 st1020 hQ1020
  subst l1020 y1020 z1020
  obtain ⟨rfl, N1020q, e1020⟩ := hQ1020
  have N1020 := Fr.app N0 N1020q
  refine go (T' := T1020) (g' := (mkF m 6 #[.val (.int p1), .val (.int p2), .val (.int p3), .val (.int p4), .val (.int p5), .val (.int p6), .unset, .unset, .unset, .unset, .unset, .unset, .unset] [(.int (own_pick p6 p3))])) st1020 ?_
  obtain ⟨c0, e_c0⟩ : ∃ z, z = (own_pick p6 p3) := ⟨_, rfl⟩
  refine goEq (g' := (mkF m 6 #[.val (.int p1), .val (.int p2), .val (.int p3), .val (.int p4), .val (.int p5), .val (.int p6), .unset, .unset, .unset, .unset, .unset, .unset, .unset] [(.int c0)])) (by rw [e_c0]) ?_
  refine go (T' := T1020) (g' := (mkF m 8 #[.val (.int p1), .val (.int p2), .val (.int p3), .val (.int p4), .val (.int p5), .val (.int p6), .val (.int c0), .unset, .unset, .unset, .unset, .unset, .unset] [])) (fun t kt => XS.istore X1020.here hx rfl (hb hby at_6) rfl (l' := #[.val (.int p1), .val (.int p2), .val (.int p3), .val (.int p4), .val (.int p5), .val (.int p6), .val (.int c0), .unset, .unset, .unset, .unset, .unset, .unset]) rfl kt) ?_
  refine go (T' := T1020) (g' := (mkF m 10 #[.val (.int p1), .val (.int p2), .val (.int p3), .val (.int p4), .val (.int p5), .val (.int p6), .val (.int c0), .unset, .unset, .unset, .unset, .unset, .unset] [(.int p6)])) (fun t kt => XS.iload X1020.here hx rfl (hb hby at_8) rfl kt) ?_
  refine go (T' := T1020) (g' := (mkF m 11 #[.val (.int p1), .val (.int p2), .val (.int p3), .val (.int p4), .val (.int p5), .val (.int p6), .val (.int c0), .unset, .unset, .unset, .unset, .unset, .unset] [(.int (2 : Int32)), (.int p6)])) (fun t kt => XS.iconst X1020.here hx rfl (hb hby at_10) kt) ?_
  refine go (T' := T1020) (g' := (mkF m 12 #[.val (.int p1), .val (.int p2), .val (.int p3), .val (.int p4), .val (.int p5), .val (.int p6), .val (.int c0), .unset, .unset, .unset, .unset, .unset, .unset] [(.int ((p6.toUInt32 >>> ((2 : Int32) &&& 31).toUInt32).toInt32))])) (fun t kt => XS.iushr X1020.here hx rfl (hb hby at_11) rfl kt) ?_
  refine go (T' := T1020) (g' := (mkF m 13 #[.val (.int p1), .val (.int p2), .val (.int p3), .val (.int p4), .val (.int p5), .val (.int p6), .val (.int c0), .unset, .unset, .unset, .unset, .unset, .unset] [(.int p4), (.int ((p6.toUInt32 >>> ((2 : Int32) &&& 31).toUInt32).toInt32))])) (fun t kt => XS.iloadN X1020.here hx rfl (hb hby at_12) rfl kt) ?_
  obtain ⟨_, _, ⟨T1021, L1021, k1021, n1021⟩, -, X1021, ⟨Lc1021, hQ1021, l1021, y1021, z1021⟩, st1021⟩ := Jvm.LawKit.callS X1020 hx (y := (⟨"com/example/exemplum/exemplum/io/TextPositionAdvancePinLaw", "pick", "(II)I"⟩ : MethodName)) hown (mvT hZ (hw _ (List.mem_of_getElem? (i := 0) rfl))) (mvT hZ (hw _ (List.mem_of_getElem? (i := 1) rfl))) (mvT hZ (hw _ (List.mem_of_getElem? (i := 2) rfl))) (mvT hZ (hw _ (List.mem_of_getElem? (i := 3) rfl))) (by decide) (backOf (W := 0) (rm1 l Z a0 hw [] ((p6.toUInt32 >>> ((2 : Int32) &&& 31).toUInt32).toInt32) p4 h0 n0 Z0) hZ (hw _ (List.mem_of_getElem? (i := 3) rfl)) (hw _ (List.mem_of_getElem? (i := 2) rfl)) (by decide) (by decide)) (g := (mkF m 13 #[.val (.int p1), .val (.int p2), .val (.int p3), .val (.int p4), .val (.int p5), .val (.int p6), .val (.int c0), .unset, .unset, .unset, .unset, .unset, .unset] [(.int p4), (.int ((p6.toUInt32 >>> ((2 : Int32) &&& 31).toUInt32).toInt32))])) rfl (by rw [hml]; rfl) (argsL := [(.int ((p6.toUInt32 >>> ((2 : Int32) &&& 31).toUInt32).toInt32)), (.int p4)]) (rest := []) (lenOf pd_0 rfl) rfl (by show 2 * 0 + _ ≤ _; exact Nat.le_of_eq rfl) (hb hby at_13) (fun _ _ => ⟨rfl, e1020, (by decide : 0 + 0 ≤ _), (by decide : 0 + 0 ≤ _)⟩)
  dsimp only [Pt.U, Pt.locs, Pt.cells, Pt.slots] at X1021 l1021 y1021 z1021 st1021 hQ1021
  subst l1021 y1021 z1021
  obtain ⟨rfl, N1021q, e1021⟩ := hQ1021
  have N1021 := Fr.app N1020 N1021q
  refine go (T' := T1021) (g' := (mkF m 16 #[.val (.int p1), .val (.int p2), .val (.int p3), .val (.int p4), .val (.int p5), .val (.int p6), .val (.int c0), .unset, .unset, .unset, .unset, .unset, .unset] [(.int (own_pick ((p6.toUInt32 >>> ((2 : Int32) &&& 31).toUInt32).toInt32) p4))])) st1021 ?_
  obtain ⟨c1, e_c1⟩ : ∃ z, z = (own_pick ((p6.toUInt32 >>> ((2 : Int32) &&& 31).toUInt32).toInt32) p4) := ⟨_, rfl⟩
  refine goEq (g' := (mkF m 16 #[.val (.int p1), .val (.int p2), .val (.int p3), .val (.int p4), .val (.int p5), .val (.int p6), .val (.int c0), .unset, .unset, .unset, .unset, .unset, .unset] [(.int c1)])) (by rw [e_c1]) ?_
  refine go (T' := T1021) (g' := (mkF m 18 #[.val (.int p1), .val (.int p2), .val (.int p3), .val (.int p4), .val (.int p5), .val (.int p6), .val (.int c0), .val (.int c1), .unset, .unset, .unset, .unset, .unset] [])) (fun t kt => XS.istore X1021.here hx rfl (hb hby at_16) rfl (l' := #[.val (.int p1), .val (.int p2), .val (.int p3), .val (.int p4), .val (.int p5), .val (.int p6), .val (.int c0), .val (.int c1), .unset, .unset, .unset, .unset, .unset]) rfl kt) ?_
  refine go (T' := T1021) (g' := (mkF m 20 #[.val (.int p1), .val (.int p2), .val (.int p3), .val (.int p4), .val (.int p5), .val (.int p6), .val (.int c0), .val (.int c1), .unset, .unset, .unset, .unset, .unset] [(.int p6)])) (fun t kt => XS.iload X1021.here hx rfl (hb hby at_18) rfl kt) ?_
  refine go (T' := T1021) (g' := (mkF m 21 #[.val (.int p1), .val (.int p2), .val (.int p3), .val (.int p4), .val (.int p5), .val (.int p6), .val (.int c0), .val (.int c1), .unset, .unset, .unset, .unset, .unset] [(.int (4 : Int32)), (.int p6)])) (fun t kt => XS.iconst X1021.here hx rfl (hb hby at_20) kt) ?_
  refine go (T' := T1021) (g' := (mkF m 22 #[.val (.int p1), .val (.int p2), .val (.int p3), .val (.int p4), .val (.int p5), .val (.int p6), .val (.int c0), .val (.int c1), .unset, .unset, .unset, .unset, .unset] [(.int ((p6.toUInt32 >>> ((4 : Int32) &&& 31).toUInt32).toInt32))])) (fun t kt => XS.iushr X1021.here hx rfl (hb hby at_21) rfl kt) ?_
  refine go (T' := T1021) (g' := (mkF m 24 #[.val (.int p1), .val (.int p2), .val (.int p3), .val (.int p4), .val (.int p5), .val (.int p6), .val (.int c0), .val (.int c1), .unset, .unset, .unset, .unset, .unset] [(.int p5), (.int ((p6.toUInt32 >>> ((4 : Int32) &&& 31).toUInt32).toInt32))])) (fun t kt => XS.iload X1021.here hx rfl (hb hby at_22) rfl kt) ?_
  obtain ⟨_, _, ⟨T1022, L1022, k1022, n1022⟩, -, X1022, ⟨Lc1022, hQ1022, l1022, y1022, z1022⟩, st1022⟩ := Jvm.LawKit.callS X1021 hx (y := (⟨"com/example/exemplum/exemplum/io/TextPositionAdvancePinLaw", "pick", "(II)I"⟩ : MethodName)) hown (mvT hZ (hw _ (List.mem_of_getElem? (i := 0) rfl))) (mvT hZ (hw _ (List.mem_of_getElem? (i := 1) rfl))) (mvT hZ (hw _ (List.mem_of_getElem? (i := 2) rfl))) (mvT hZ (hw _ (List.mem_of_getElem? (i := 3) rfl))) (by decide) (backOf (W := 0) (rm1 l Z a0 hw [] ((p6.toUInt32 >>> ((4 : Int32) &&& 31).toUInt32).toInt32) p5 h0 n0 Z0) hZ (hw _ (List.mem_of_getElem? (i := 3) rfl)) (hw _ (List.mem_of_getElem? (i := 2) rfl)) (by decide) (by decide)) (g := (mkF m 24 #[.val (.int p1), .val (.int p2), .val (.int p3), .val (.int p4), .val (.int p5), .val (.int p6), .val (.int c0), .val (.int c1), .unset, .unset, .unset, .unset, .unset] [(.int p5), (.int ((p6.toUInt32 >>> ((4 : Int32) &&& 31).toUInt32).toInt32))])) rfl (by rw [hml]; rfl) (argsL := [(.int ((p6.toUInt32 >>> ((4 : Int32) &&& 31).toUInt32).toInt32)), (.int p5)]) (rest := []) (lenOf pd_0 rfl) rfl (by show 2 * 0 + _ ≤ _; exact Nat.le_of_eq rfl) (hb hby at_24) (fun _ _ => ⟨rfl, e1021, (by decide : 0 + 0 ≤ _), (by decide : 0 + 0 ≤ _)⟩)
  dsimp only [Pt.U, Pt.locs, Pt.cells, Pt.slots] at X1022 l1022 y1022 z1022 st1022 hQ1022
  subst l1022 y1022 z1022
  obtain ⟨rfl, N1022q, e1022⟩ := hQ1022
  have N1022 := Fr.app N1021 N1022q
  refine go (T' := T1022) (g' := (mkF m 27 #[.val (.int p1), .val (.int p2), .val (.int p3), .val (.int p4), .val (.int p5), .val (.int p6), .val (.int c0), .val (.int c1), .unset, .unset, .unset, .unset, .unset] [(.int (own_pick ((p6.toUInt32 >>> ((4 : Int32) &&& 31).toUInt32).toInt32) p5))])) st1022 ?_
  obtain ⟨c2, e_c2⟩ : ∃ z, z = (own_pick ((p6.toUInt32 >>> ((4 : Int32) &&& 31).toUInt32).toInt32) p5) := ⟨_, rfl⟩
  refine goEq (g' := (mkF m 27 #[.val (.int p1), .val (.int p2), .val (.int p3), .val (.int p4), .val (.int p5), .val (.int p6), .val (.int c0), .val (.int c1), .unset, .unset, .unset, .unset, .unset] [(.int c2)])) (by rw [e_c2]) ?_
  refine go (T' := T1022) (g' := (mkF m 29 #[.val (.int p1), .val (.int p2), .val (.int p3), .val (.int p4), .val (.int p5), .val (.int p6), .val (.int c0), .val (.int c1), .val (.int c2), .unset, .unset, .unset, .unset] [])) (fun t kt => XS.istore X1022.here hx rfl (hb hby at_27) rfl (l' := #[.val (.int p1), .val (.int p2), .val (.int p3), .val (.int p4), .val (.int p5), .val (.int p6), .val (.int c0), .val (.int c1), .val (.int c2), .unset, .unset, .unset, .unset]) rfl kt) ?_
  obtain ⟨T1023, h1023, X1023, e1023, E1023, A1023, D1023, -, st1023⟩ := newO X1022 hx hZ hown (hw _ (List.mem_of_getElem? (i := 4) rfl)) (hw _ (List.mem_of_getElem? (i := 5) rfl)) (hw _ (List.mem_of_getElem? (i := 6) rfl)) e1022 (g := (mkF m 29 #[.val (.int p1), .val (.int p2), .val (.int p3), .val (.int p4), .val (.int p5), .val (.int p6), .val (.int c0), .val (.int c1), .val (.int c2), .unset, .unset, .unset, .unset] [])) rfl (hb hby at_29) (by decide) (by decide)
  obtain ⟨bq, g1023⟩ : ∃ z, z = h0.size := ⟨_, rfl⟩
  rw [← g1023] at A1023 D1023 st1023
  have g_bq : n0 ≤ bq := Nat.le_trans Z0 (Nat.le_of_eq g1023.symm)
  have z1023 : n0 ≤ h1023.size := Nat.le_trans Z0 E1023.1
  have F_line_bq : Fld Z h1023 bq "com/example/exemplum/exemplum/io/TextPosition" "line" "I" (.int (0 : Int32)) := D1023 (Or.inl (hw _ (List.mem_of_getElem? (i := 14) rfl))) (ty := .int) (by decide)
  have F_column_bq : Fld Z h1023 bq "com/example/exemplum/exemplum/io/TextPosition" "column" "I" (.int (0 : Int32)) := D1023 (Or.inl (hw _ (List.mem_of_getElem? (i := 16) rfl))) (ty := .int) (by decide)
  have F_afterCarriageReturn_bq : Fld Z h1023 bq "com/example/exemplum/exemplum/io/TextPosition" "afterCarriageReturn" "Z" (.int (0 : Int32)) := D1023 (Or.inl (hw _ (List.mem_of_getElem? (i := 23) rfl))) (ty := .boolean) (by decide)
  refine go (T' := T1023) (g' := (mkF m 32 #[.val (.int p1), .val (.int p2), .val (.int p3), .val (.int p4), .val (.int p5), .val (.int p6), .val (.int c0), .val (.int c1), .val (.int c2), .unset, .unset, .unset, .unset] [(.ref bq)])) st1023 ?_
  refine go (T' := T1023) (g' := (mkF m 33 #[.val (.int p1), .val (.int p2), .val (.int p3), .val (.int p4), .val (.int p5), .val (.int p6), .val (.int c0), .val (.int c1), .val (.int c2), .unset, .unset, .unset, .unset] [(.ref bq), (.ref bq)])) (fun t kt => XS.dup X1023.here hx rfl (hb hby at_32) rfl rfl kt) ?_
  refine go (T' := T1023) (g' := (mkF m 34 #[.val (.int p1), .val (.int p2), .val (.int p3), .val (.int p4), .val (.int p5), .val (.int p6), .val (.int c0), .val (.int c1), .val (.int c2), .unset, .unset, .unset, .unset] [(.int p1), (.ref bq), (.ref bq)])) (fun t kt => XS.iloadN X1023.here hx rfl (hb hby at_33) rfl kt) ?_
  refine go (T' := T1023) (g' := (mkF m 35 #[.val (.int p1), .val (.int p2), .val (.int p3), .val (.int p4), .val (.int p5), .val (.int p6), .val (.int c0), .val (.int c1), .val (.int c2), .unset, .unset, .unset, .unset] [(.int p2), (.int p1), (.ref bq), (.ref bq)])) (fun t kt => XS.iloadN X1023.here hx rfl (hb hby at_34) rfl kt) ?_
  obtain ⟨_, _, ⟨T1024, L1024, k1024, n1024⟩, -, X1024, ⟨Lc1024, hQ1024, l1024, y1024, z1024⟩, st1024⟩ := X1023.specialBack hx (y := (⟨"com/example/exemplum/exemplum/io/TextPosition", "<init>", "(II)V"⟩ : MethodName)) rfl hown (mvT hZ (hw _ (List.mem_of_getElem? (i := 7) rfl))) (mvT hZ (hw _ (List.mem_of_getElem? (i := 8) rfl))) (mvT hZ (hw _ (List.mem_of_getElem? (i := 9) rfl))) (by decide) (backOf (W := 1) (rm2 l Z a0 hw [] bq p1 p2 h1023 n0 z1023 g_bq A1023 F_line_bq F_column_bq F_afterCarriageReturn_bq) hZ (hw _ (List.mem_of_getElem? (i := 9) rfl)) (hw _ (List.mem_of_getElem? (i := 6) rfl)) (by decide) (by decide)) (g := (mkF m 35 #[.val (.int p1), .val (.int p2), .val (.int p3), .val (.int p4), .val (.int p5), .val (.int p6), .val (.int c0), .val (.int c1), .val (.int c2), .unset, .unset, .unset, .unset] [(.int p2), (.int p1), (.ref bq), (.ref bq)])) rfl (by rw [hml]; rfl) (Steps.refl _) (a := bq) (argsL := [(.int p1), (.int p2)]) (rest := [(.ref bq)]) (lenOf pd_1 rfl) rfl (by show 2 * 0 + _ ≤ _; exact Nat.le_of_eq rfl) (hb hby at_35) (fun _ _ => ⟨rfl, e1023, (by decide : 1 + 0 ≤ _), (by decide : 3 + 0 ≤ _)⟩)
  dsimp only [Pt.U, Pt.locs, Pt.cells, Pt.slots] at X1024 l1024 y1024 z1024 st1024 hQ1024
  subst l1024 y1024 z1024
  obtain ⟨rfl, N1024q, K1024, F1024a, F1024b, F1024c⟩ := hQ1024
  have N1024 := Fr.app N1022 N1024q
  refine goV (T' := T1024) (g' := (mkF m 38 #[.val (.int p1), .val (.int p2), .val (.int p3), .val (.int p4), .val (.int p5), .val (.int p6), .val (.int c0), .val (.int c1), .val (.int c2), .unset, .unset, .unset, .unset] [(.ref bq)])) st1024 ?_
  have z1024 : n0 ≤ T1024.heap.size := Nat.le_trans z1023 K1024.1
  have fE_bq_1024 : Exa Z T1024.heap bq "com/example/exemplum/exemplum/io/TextPosition" := A1023.keep K1024
  refine go (T' := T1024) (g' := (mkF m 40 #[.val (.int p1), .val (.int p2), .val (.int p3), .val (.int p4), .val (.int p5), .val (.int p6), .val (.int c0), .val (.int c1), .val (.int c2), .val (.ref bq), .unset, .unset, .unset] [])) (fun t kt => XS.astore X1024.here hx rfl (hb hby at_38) rfl rfl (l' := #[.val (.int p1), .val (.int p2), .val (.int p3), .val (.int p4), .val (.int p5), .val (.int p6), .val (.int c0), .val (.int c1), .val (.int c2), .val (.ref bq), .unset, .unset, .unset]) rfl kt) ?_
  refine go (T' := T1024) (g' := (mkF m 41 #[.val (.int p1), .val (.int p2), .val (.int p3), .val (.int p4), .val (.int p5), .val (.int p6), .val (.int c0), .val (.int c1), .val (.int c2), .val (.ref bq), .unset, .unset, .unset] [(.int (1 : Int32))])) (fun t kt => XS.iconst X1024.here hx rfl (hb hby at_40) kt) ?_
  refine go (T' := T1024) (g' := (mkF m 43 #[.val (.int p1), .val (.int p2), .val (.int p3), .val (.int p4), .val (.int p5), .val (.int p6), .val (.int c0), .val (.int c1), .val (.int c2), .val (.ref bq), .val (.int (1 : Int32)), .unset, .unset] [])) (fun t kt => XS.istore X1024.here hx rfl (hb hby at_41) rfl (l' := #[.val (.int p1), .val (.int p2), .val (.int p3), .val (.int p4), .val (.int p5), .val (.int p6), .val (.int c0), .val (.int c1), .val (.int c2), .val (.ref bq), .val (.int (1 : Int32)), .unset, .unset]) rfl kt) ?_
  refine go (T' := T1024) (g' := (mkF m 44 #[.val (.int p1), .val (.int p2), .val (.int p3), .val (.int p4), .val (.int p5), .val (.int p6), .val (.int c0), .val (.int c1), .val (.int c2), .val (.ref bq), .val (.int (1 : Int32)), .unset, .unset] [(.int p1)])) (fun t kt => XS.iloadN X1024.here hx rfl (hb hby at_43) rfl kt) ?_
  refine go (T' := T1024) (g' := (mkF m 46 #[.val (.int p1), .val (.int p2), .val (.int p3), .val (.int p4), .val (.int p5), .val (.int p6), .val (.int c0), .val (.int c1), .val (.int c2), .val (.ref bq), .val (.int (1 : Int32)), .val (.int p1), .unset] [])) (fun t kt => XS.istore X1024.here hx rfl (hb hby at_44) rfl (l' := #[.val (.int p1), .val (.int p2), .val (.int p3), .val (.int p4), .val (.int p5), .val (.int p6), .val (.int c0), .val (.int c1), .val (.int c2), .val (.ref bq), .val (.int (1 : Int32)), .val (.int p1), .unset]) rfl kt) ?_
  refine go (T' := T1024) (g' := (mkF m 47 #[.val (.int p1), .val (.int p2), .val (.int p3), .val (.int p4), .val (.int p5), .val (.int p6), .val (.int c0), .val (.int c1), .val (.int c2), .val (.ref bq), .val (.int (1 : Int32)), .val (.int p1), .unset] [(.int p2)])) (fun t kt => XS.iloadN X1024.here hx rfl (hb hby at_46) rfl kt) ?_
  refine go (T' := T1024) (g' := (mkF m 49 #[.val (.int p1), .val (.int p2), .val (.int p3), .val (.int p4), .val (.int p5), .val (.int p6), .val (.int c0), .val (.int c1), .val (.int c2), .val (.ref bq), .val (.int (1 : Int32)), .val (.int p1), .val (.int p2)] [])) (fun t kt => XS.istore X1024.here hx rfl (hb hby at_47) rfl (l' := #[.val (.int p1), .val (.int p2), .val (.int p3), .val (.int p4), .val (.int p5), .val (.int p6), .val (.int c0), .val (.int c1), .val (.int c2), .val (.ref bq), .val (.int (1 : Int32)), .val (.int p1), .val (.int p2)]) rfl kt) ?_
  refine go (T' := T1024) (g' := (mkF m 51 #[.val (.int p1), .val (.int p2), .val (.int p3), .val (.int p4), .val (.int p5), .val (.int p6), .val (.int c0), .val (.int c1), .val (.int c2), .val (.ref bq), .val (.int (1 : Int32)), .val (.int p1), .val (.int p2)] [(.ref bq)])) (fun t kt => XS.aload X1024.here hx rfl (hb hby at_49) rfl rfl kt) ?_
  refine go (T' := T1024) (g' := (mkF m 53 #[.val (.int p1), .val (.int p2), .val (.int p3), .val (.int p4), .val (.int p5), .val (.int p6), .val (.int c0), .val (.int c1), .val (.int c2), .val (.ref bq), .val (.int (1 : Int32)), .val (.int p1), .val (.int p2)] [(.int c0), (.ref bq)])) (fun t kt => XS.iload X1024.here hx rfl (hb hby at_51) rfl kt) ?_
  obtain ⟨cq1025, kq1025, q1025a, q1025b, q1025c⟩ := isOf hZ rfl fE_bq_1024
  obtain ⟨_, _, ⟨T1025, L1025, k1025, n1025⟩, -, X1025, ⟨Lc1025, hQ1025, l1025, y1025, z1025⟩, st1025⟩ := X1024.virtualBack hx (y := (⟨"com/example/exemplum/exemplum/io/TextPosition", "advance", "(I)V"⟩ : MethodName)) (z := (⟨"com/example/exemplum/exemplum/io/TextPosition", "advance", "(I)V"⟩ : MethodName)) hown (mvT hZ (hw _ (List.mem_of_getElem? (i := 17) rfl))) (mvT hZ (hw _ (List.mem_of_getElem? (i := 18) rfl))) (notFace_of_selects (args := #[]) (mvT hZ (hw _ (List.mem_of_getElem? (i := 20) rfl)))) (mvT hZ (hw _ (List.mem_of_getElem? (i := 20) rfl))) (mvT hZ (hw _ (List.mem_of_getElem? (i := 19) rfl))) (by decide) (backOf (W := 0) (rm4 l Z a0 hw [] bq c0 p1 p2 (0 : Int32) T1024.heap n0 z1024 g_bq fE_bq_1024 F1024a F1024b F1024c) hZ (hw _ (List.mem_of_getElem? (i := 21) rfl)) (hw _ (List.mem_of_getElem? (i := 6) rfl)) (by decide) (by decide)) q1025a q1025c (g := (mkF m 53 #[.val (.int p1), .val (.int p2), .val (.int p3), .val (.int p4), .val (.int p5), .val (.int p6), .val (.int c0), .val (.int c1), .val (.int c2), .val (.ref bq), .val (.int (1 : Int32)), .val (.int p1), .val (.int p2)] [(.int c0), (.ref bq)])) rfl (by rw [hml]; rfl) (Steps.refl _) (argsL := [(.int c0)]) (rest := []) (lenOf pd_2 rfl) rfl (by show 2 * 0 + _ ≤ _; exact Nat.le_of_eq rfl) (hb hby at_53) (fun _ _ => ⟨rfl, rfl, (by decide : 1 + 0 ≤ _), (by decide : 3 + 0 ≤ _)⟩)
  dsimp only [Pt.U, Pt.locs, Pt.cells, Pt.slots] at X1025 l1025 y1025 z1025 st1025 hQ1025
  subst l1025 y1025 z1025
  obtain ⟨rfl, N1025q, K1025, F1025a, F1025b, F1025c⟩ := hQ1025
  have N1025 := Fr.app N1024 N1025q
  refine goV (T' := T1025) (g' := (mkF m 56 #[.val (.int p1), .val (.int p2), .val (.int p3), .val (.int p4), .val (.int p5), .val (.int p6), .val (.int c0), .val (.int c1), .val (.int c2), .val (.ref bq), .val (.int (1 : Int32)), .val (.int p1), .val (.int p2)] [])) st1025 ?_
  have z1025 : n0 ≤ T1025.heap.size := Nat.le_trans z1024 K1025.1
  have fE_bq_1025 : Exa Z T1025.heap bq "com/example/exemplum/exemplum/io/TextPosition" := fE_bq_1024.keep K1025
  refine go (T' := T1025) (g' := (mkF m 58 #[.val (.int p1), .val (.int p2), .val (.int p3), .val (.int p4), .val (.int p5), .val (.int p6), .val (.int c0), .val (.int c1), .val (.int c2), .val (.ref bq), .val (.int (1 : Int32)), .val (.int p1), .val (.int p2)] [(.int p1)])) (fun t kt => XS.iload X1025.here hx rfl (hb hby at_56) rfl kt) ?_
  refine go (T' := T1025) (g' := (mkF m 60 #[.val (.int p1), .val (.int p2), .val (.int p3), .val (.int p4), .val (.int p5), .val (.int p6), .val (.int c0), .val (.int c1), .val (.int c2), .val (.ref bq), .val (.int (1 : Int32)), .val (.int p1), .val (.int p2)] [(.int c0), (.int p1)])) (fun t kt => XS.iload X1025.here hx rfl (hb hby at_58) rfl kt) ?_
  refine go (T' := T1025) (g' := (mkF m 61 #[.val (.int p1), .val (.int p2), .val (.int p3), .val (.int p4), .val (.int p5), .val (.int p6), .val (.int c0), .val (.int c1), .val (.int c2), .val (.ref bq), .val (.int (1 : Int32)), .val (.int p1), .val (.int p2)] [(.int (0 : Int32)), (.int c0), (.int p1)])) (fun t kt => XS.iconst X1025.here hx rfl (hb hby at_60) kt) ?_
  obtain ⟨_, _, ⟨T1026, L1026, k1026, n1026⟩, -, X1026, ⟨Lc1026, hQ1026, l1026, y1026, z1026⟩, st1026⟩ := Jvm.LawKit.callS X1025 hx (y := (⟨"com/example/exemplum/exemplum/io/TextPositionAdvancePinLaw", "nextLine", "(IIZ)I"⟩ : MethodName)) hown (mvT hZ (hw _ (List.mem_of_getElem? (i := 24) rfl))) (mvT hZ (hw _ (List.mem_of_getElem? (i := 25) rfl))) (mvT hZ (hw _ (List.mem_of_getElem? (i := 2) rfl))) (mvT hZ (hw _ (List.mem_of_getElem? (i := 26) rfl))) (by decide) (backOf (W := 0) (rm5 l Z a0 hw [] p1 c0 (0 : Int32) T1025.heap n0 z1025) hZ (hw _ (List.mem_of_getElem? (i := 26) rfl)) (hw _ (List.mem_of_getElem? (i := 2) rfl)) (by decide) (by decide)) (g := (mkF m 61 #[.val (.int p1), .val (.int p2), .val (.int p3), .val (.int p4), .val (.int p5), .val (.int p6), .val (.int c0), .val (.int c1), .val (.int c2), .val (.ref bq), .val (.int (1 : Int32)), .val (.int p1), .val (.int p2)] [(.int (0 : Int32)), (.int c0), (.int p1)])) rfl (by rw [hml]; rfl) (argsL := [(.int p1), (.int c0), (.int (0 : Int32))]) (rest := []) (lenOf pd_3 rfl) rfl (by show 2 * 0 + _ ≤ _; exact Nat.le_of_eq rfl) (hb hby at_61) (fun _ _ => ⟨rfl, rfl, (by decide : 1 + 0 ≤ _), (by decide : 3 + 0 ≤ _)⟩)
  dsimp only [Pt.U, Pt.locs, Pt.cells, Pt.slots] at X1026 l1026 y1026 z1026 st1026 hQ1026
  subst l1026 y1026 z1026
  obtain ⟨rfl, N1026q, e1026⟩ := hQ1026
  have N1026 := Fr.app N1025 N1026q
  refine go (T' := T1026) (g' := (mkF m 64 #[.val (.int p1), .val (.int p2), .val (.int p3), .val (.int p4), .val (.int p5), .val (.int p6), .val (.int c0), .val (.int c1), .val (.int c2), .val (.ref bq), .val (.int (1 : Int32)), .val (.int p1), .val (.int p2)] [(.int (own_line p1 c0 (0 : Int32)))])) st1026 ?_
  obtain ⟨l0, e_l0⟩ : ∃ z, z = (own_line p1 c0 (0 : Int32)) := ⟨_, rfl⟩
  refine goEq (g' := (mkF m 64 #[.val (.int p1), .val (.int p2), .val (.int p3), .val (.int p4), .val (.int p5), .val (.int p6), .val (.int c0), .val (.int c1), .val (.int c2), .val (.ref bq), .val (.int (1 : Int32)), .val (.int p1), .val (.int p2)] [(.int l0)])) (by rw [e_l0]) ?_
  rw [← e_l0] at F1025a
  refine go (T' := T1026) (g' := (mkF m 66 #[.val (.int p1), .val (.int p2), .val (.int p3), .val (.int p4), .val (.int p5), .val (.int p6), .val (.int c0), .val (.int c1), .val (.int c2), .val (.ref bq), .val (.int (1 : Int32)), .val (.int l0), .val (.int p2)] [])) (fun t kt => XS.istore X1026.here hx rfl (hb hby at_64) rfl (l' := #[.val (.int p1), .val (.int p2), .val (.int p3), .val (.int p4), .val (.int p5), .val (.int p6), .val (.int c0), .val (.int c1), .val (.int c2), .val (.ref bq), .val (.int (1 : Int32)), .val (.int l0), .val (.int p2)]) rfl kt) ?_
  refine go (T' := T1026) (g' := (mkF m 68 #[.val (.int p1), .val (.int p2), .val (.int p3), .val (.int p4), .val (.int p5), .val (.int p6), .val (.int c0), .val (.int c1), .val (.int c2), .val (.ref bq), .val (.int (1 : Int32)), .val (.int l0), .val (.int p2)] [(.int p2)])) (fun t kt => XS.iload X1026.here hx rfl (hb hby at_66) rfl kt) ?_
  refine go (T' := T1026) (g' := (mkF m 70 #[.val (.int p1), .val (.int p2), .val (.int p3), .val (.int p4), .val (.int p5), .val (.int p6), .val (.int c0), .val (.int c1), .val (.int c2), .val (.ref bq), .val (.int (1 : Int32)), .val (.int l0), .val (.int p2)] [(.int c0), (.int p2)])) (fun t kt => XS.iload X1026.here hx rfl (hb hby at_68) rfl kt) ?_
  obtain ⟨_, _, ⟨T1027, L1027, k1027, n1027⟩, -, X1027, ⟨Lc1027, hQ1027, l1027, y1027, z1027⟩, st1027⟩ := Jvm.LawKit.callS X1026 hx (y := (⟨"com/example/exemplum/exemplum/io/TextPositionAdvancePinLaw", "nextCol", "(II)I"⟩ : MethodName)) hown (mvT hZ (hw _ (List.mem_of_getElem? (i := 27) rfl))) (mvT hZ (hw _ (List.mem_of_getElem? (i := 28) rfl))) (mvT hZ (hw _ (List.mem_of_getElem? (i := 2) rfl))) (mvT hZ (hw _ (List.mem_of_getElem? (i := 29) rfl))) (by decide) (backOf (W := 0) (rm6 l Z a0 hw [] p2 c0 T1025.heap n0 z1025) hZ (hw _ (List.mem_of_getElem? (i := 29) rfl)) (hw _ (List.mem_of_getElem? (i := 2) rfl)) (by decide) (by decide)) (g := (mkF m 70 #[.val (.int p1), .val (.int p2), .val (.int p3), .val (.int p4), .val (.int p5), .val (.int p6), .val (.int c0), .val (.int c1), .val (.int c2), .val (.ref bq), .val (.int (1 : Int32)), .val (.int l0), .val (.int p2)] [(.int c0), (.int p2)])) rfl (by rw [hml]; rfl) (argsL := [(.int p2), (.int c0)]) (rest := []) (lenOf pd_0 rfl) rfl (by show 2 * 0 + _ ≤ _; exact Nat.le_of_eq rfl) (hb hby at_70) (fun _ _ => ⟨rfl, e1026, (by decide : 1 + 0 ≤ _), (by decide : 3 + 0 ≤ _)⟩)
  dsimp only [Pt.U, Pt.locs, Pt.cells, Pt.slots] at X1027 l1027 y1027 z1027 st1027 hQ1027
  subst l1027 y1027 z1027
  obtain ⟨rfl, N1027q, e1027⟩ := hQ1027
  have N1027 := Fr.app N1026 N1027q
  refine go (T' := T1027) (g' := (mkF m 73 #[.val (.int p1), .val (.int p2), .val (.int p3), .val (.int p4), .val (.int p5), .val (.int p6), .val (.int c0), .val (.int c1), .val (.int c2), .val (.ref bq), .val (.int (1 : Int32)), .val (.int l0), .val (.int p2)] [(.int (own_col p2 c0))])) st1027 ?_
  obtain ⟨k0, e_k0⟩ : ∃ z, z = (own_col p2 c0) := ⟨_, rfl⟩
  refine goEq (g' := (mkF m 73 #[.val (.int p1), .val (.int p2), .val (.int p3), .val (.int p4), .val (.int p5), .val (.int p6), .val (.int c0), .val (.int c1), .val (.int c2), .val (.ref bq), .val (.int (1 : Int32)), .val (.int l0), .val (.int p2)] [(.int k0)])) (by rw [e_k0]) ?_
  rw [← e_k0] at F1025b
  refine go (T' := T1027) (g' := (mkF m 75 #[.val (.int p1), .val (.int p2), .val (.int p3), .val (.int p4), .val (.int p5), .val (.int p6), .val (.int c0), .val (.int c1), .val (.int c2), .val (.ref bq), .val (.int (1 : Int32)), .val (.int l0), .val (.int k0)] [])) (fun t kt => XS.istore X1027.here hx rfl (hb hby at_73) rfl (l' := #[.val (.int p1), .val (.int p2), .val (.int p3), .val (.int p4), .val (.int p5), .val (.int p6), .val (.int c0), .val (.int c1), .val (.int c2), .val (.ref bq), .val (.int (1 : Int32)), .val (.int l0), .val (.int k0)]) rfl kt) ?_
  refine go (T' := T1027) (g' := (mkF m 77 #[.val (.int p1), .val (.int p2), .val (.int p3), .val (.int p4), .val (.int p5), .val (.int p6), .val (.int c0), .val (.int c1), .val (.int c2), .val (.ref bq), .val (.int (1 : Int32)), .val (.int l0), .val (.int k0)] [(.int (1 : Int32))])) (fun t kt => XS.iload X1027.here hx rfl (hb hby at_75) rfl kt) ?_
  refine go (T' := T1027) (g' := (mkF m 80 #[.val (.int p1), .val (.int p2), .val (.int p3), .val (.int p4), .val (.int p5), .val (.int p6), .val (.int c0), .val (.int c1), .val (.int c2), .val (.ref bq), .val (.int (1 : Int32)), .val (.int l0), .val (.int k0)] [])) (fun t kt => XS.ifNo X1027.here hx rfl (hb hby at_77) rfl ((if0 _ _).trans (feq own_ne10).1) kt) ?_
  refine go (T' := T1027) (g' := (mkF m 82 #[.val (.int p1), .val (.int p2), .val (.int p3), .val (.int p4), .val (.int p5), .val (.int p6), .val (.int c0), .val (.int c1), .val (.int c2), .val (.ref bq), .val (.int (1 : Int32)), .val (.int l0), .val (.int k0)] [(.ref bq)])) (fun t kt => XS.aload X1027.here hx rfl (hb hby at_80) rfl rfl kt) ?_
  obtain ⟨cq1028, kq1028, q1028a, q1028b, q1028c⟩ := isOf hZ e1027 fE_bq_1025
  obtain ⟨_, _, ⟨T1028, L1028, k1028, n1028⟩, -, X1028, ⟨Lc1028, hQ1028, l1028, y1028, z1028⟩, st1028⟩ := X1027.virtualBack hx (y := (⟨"com/example/exemplum/exemplum/io/TextPosition", "line", "()I"⟩ : MethodName)) (z := (⟨"com/example/exemplum/exemplum/io/TextPosition", "line", "()I"⟩ : MethodName)) hown (mvT hZ (hw _ (List.mem_of_getElem? (i := 30) rfl))) (mvT hZ (hw _ (List.mem_of_getElem? (i := 31) rfl))) (notFace_of_selects (args := #[]) (mvT hZ (hw _ (List.mem_of_getElem? (i := 33) rfl)))) (mvT hZ (hw _ (List.mem_of_getElem? (i := 33) rfl))) (mvT hZ (hw _ (List.mem_of_getElem? (i := 32) rfl))) (by decide) (backOf (W := 0) (rm7 l Z a0 hw [] bq l0 T1025.heap n0 z1025 F1025a) hZ (hw _ (List.mem_of_getElem? (i := 34) rfl)) (hw _ (List.mem_of_getElem? (i := 6) rfl)) (by decide) (by decide)) q1028a q1028c (g := (mkF m 82 #[.val (.int p1), .val (.int p2), .val (.int p3), .val (.int p4), .val (.int p5), .val (.int p6), .val (.int c0), .val (.int c1), .val (.int c2), .val (.ref bq), .val (.int (1 : Int32)), .val (.int l0), .val (.int k0)] [(.ref bq)])) rfl (by rw [hml]; rfl) (Steps.refl _) (argsL := []) (rest := []) (lenOf pd_4 rfl) rfl (by show 2 * 0 + _ ≤ _; exact Nat.le_of_eq rfl) (hb hby at_82) (fun _ _ => ⟨rfl, e1027, (by decide : 1 + 0 ≤ _), (by decide : 3 + 0 ≤ _)⟩)
  dsimp only [Pt.U, Pt.locs, Pt.cells, Pt.slots] at X1028 l1028 y1028 z1028 st1028 hQ1028
  subst l1028 y1028 z1028
  obtain ⟨rfl, N1028q, e1028⟩ := hQ1028
  have N1028 := Fr.app N1027 N1028q
  refine goV (T' := T1028) (g' := (mkF m 85 #[.val (.int p1), .val (.int p2), .val (.int p3), .val (.int p4), .val (.int p5), .val (.int p6), .val (.int c0), .val (.int c1), .val (.int c2), .val (.ref bq), .val (.int (1 : Int32)), .val (.int l0), .val (.int k0)] [(.int l0)])) st1028 ?_
  refine go (T' := T1028) (g' := (mkF m 87 #[.val (.int p1), .val (.int p2), .val (.int p3), .val (.int p4), .val (.int p5), .val (.int p6), .val (.int c0), .val (.int c1), .val (.int c2), .val (.ref bq), .val (.int (1 : Int32)), .val (.int l0), .val (.int k0)] [(.int l0), (.int l0)])) (fun t kt => XS.iload X1028.here hx rfl (hb hby at_85) rfl kt) ?_
  refine go (T' := T1028) (g' := (mkF m 90 #[.val (.int p1), .val (.int p2), .val (.int p3), .val (.int p4), .val (.int p5), .val (.int p6), .val (.int c0), .val (.int c1), .val (.int c2), .val (.ref bq), .val (.int (1 : Int32)), .val (.int l0), .val (.int k0)] [])) (fun t kt => XS.icmpNo X1028.here hx rfl (hb hby at_87) rfl (teq (rfl : l0 = l0)).2 kt) ?_
  refine go (T' := T1028) (g' := (mkF m 92 #[.val (.int p1), .val (.int p2), .val (.int p3), .val (.int p4), .val (.int p5), .val (.int p6), .val (.int c0), .val (.int c1), .val (.int c2), .val (.ref bq), .val (.int (1 : Int32)), .val (.int l0), .val (.int k0)] [(.ref bq)])) (fun t kt => XS.aload X1028.here hx rfl (hb hby at_90) rfl rfl kt) ?_
  obtain ⟨cq1029, kq1029, q1029a, q1029b, q1029c⟩ := isOf hZ e1028 fE_bq_1025
  obtain ⟨_, _, ⟨T1029, L1029, k1029, n1029⟩, -, X1029, ⟨Lc1029, hQ1029, l1029, y1029, z1029⟩, st1029⟩ := X1028.virtualBack hx (y := (⟨"com/example/exemplum/exemplum/io/TextPosition", "column", "()I"⟩ : MethodName)) (z := (⟨"com/example/exemplum/exemplum/io/TextPosition", "column", "()I"⟩ : MethodName)) hown (mvT hZ (hw _ (List.mem_of_getElem? (i := 35) rfl))) (mvT hZ (hw _ (List.mem_of_getElem? (i := 36) rfl))) (notFace_of_selects (args := #[]) (mvT hZ (hw _ (List.mem_of_getElem? (i := 38) rfl)))) (mvT hZ (hw _ (List.mem_of_getElem? (i := 38) rfl))) (mvT hZ (hw _ (List.mem_of_getElem? (i := 37) rfl))) (by decide) (backOf (W := 0) (rm8 l Z a0 hw [] bq k0 T1025.heap n0 z1025 F1025b) hZ (hw _ (List.mem_of_getElem? (i := 39) rfl)) (hw _ (List.mem_of_getElem? (i := 6) rfl)) (by decide) (by decide)) q1029a q1029c (g := (mkF m 92 #[.val (.int p1), .val (.int p2), .val (.int p3), .val (.int p4), .val (.int p5), .val (.int p6), .val (.int c0), .val (.int c1), .val (.int c2), .val (.ref bq), .val (.int (1 : Int32)), .val (.int l0), .val (.int k0)] [(.ref bq)])) rfl (by rw [hml]; rfl) (Steps.refl _) (argsL := []) (rest := []) (lenOf pd_4 rfl) rfl (by show 2 * 0 + _ ≤ _; exact Nat.le_of_eq rfl) (hb hby at_92) (fun _ _ => ⟨rfl, e1028, (by decide : 1 + 0 ≤ _), (by decide : 3 + 0 ≤ _)⟩)
  dsimp only [Pt.U, Pt.locs, Pt.cells, Pt.slots] at X1029 l1029 y1029 z1029 st1029 hQ1029
  subst l1029 y1029 z1029
  obtain ⟨rfl, N1029q, e1029⟩ := hQ1029
  have N1029 := Fr.app N1028 N1029q
  refine goV (T' := T1029) (g' := (mkF m 95 #[.val (.int p1), .val (.int p2), .val (.int p3), .val (.int p4), .val (.int p5), .val (.int p6), .val (.int c0), .val (.int c1), .val (.int c2), .val (.ref bq), .val (.int (1 : Int32)), .val (.int l0), .val (.int k0)] [(.int k0)])) st1029 ?_
  refine go (T' := T1029) (g' := (mkF m 97 #[.val (.int p1), .val (.int p2), .val (.int p3), .val (.int p4), .val (.int p5), .val (.int p6), .val (.int c0), .val (.int c1), .val (.int c2), .val (.ref bq), .val (.int (1 : Int32)), .val (.int l0), .val (.int k0)] [(.int k0), (.int k0)])) (fun t kt => XS.iload X1029.here hx rfl (hb hby at_95) rfl kt) ?_
  refine go (T' := T1029) (g' := (mkF m 100 #[.val (.int p1), .val (.int p2), .val (.int p3), .val (.int p4), .val (.int p5), .val (.int p6), .val (.int c0), .val (.int c1), .val (.int c2), .val (.ref bq), .val (.int (1 : Int32)), .val (.int l0), .val (.int k0)] [])) (fun t kt => XS.icmpNo X1029.here hx rfl (hb hby at_97) rfl (teq (rfl : k0 = k0)).2 kt) ?_
  refine go (T' := T1029) (g' := (mkF m 101 #[.val (.int p1), .val (.int p2), .val (.int p3), .val (.int p4), .val (.int p5), .val (.int p6), .val (.int c0), .val (.int c1), .val (.int c2), .val (.ref bq), .val (.int (1 : Int32)), .val (.int l0), .val (.int k0)] [(.int (1 : Int32))])) (fun t kt => XS.iconst X1029.here hx rfl (hb hby at_100) kt) ?_
  refine go (T' := T1029) (g' := (mkF m 105 #[.val (.int p1), .val (.int p2), .val (.int p3), .val (.int p4), .val (.int p5), .val (.int p6), .val (.int c0), .val (.int c1), .val (.int c2), .val (.ref bq), .val (.int (1 : Int32)), .val (.int l0), .val (.int k0)] [(.int (1 : Int32))])) (fun t kt => XS.goto X1029.here hx rfl (pc0 := 101) (pc' := 105) rfl (hb hby at_101) (by decide) (by decide) kt) ?_
  refine go (T' := T1029) (g' := (mkF m 107 #[.val (.int p1), .val (.int p2), .val (.int p3), .val (.int p4), .val (.int p5), .val (.int p6), .val (.int c0), .val (.int c1), .val (.int c2), .val (.ref bq), .val (.int (1 : Int32)), .val (.int l0), .val (.int k0)] [])) (fun t kt => XS.istore X1029.here hx rfl (hb hby at_105) rfl (l' := #[.val (.int p1), .val (.int p2), .val (.int p3), .val (.int p4), .val (.int p5), .val (.int p6), .val (.int c0), .val (.int c1), .val (.int c2), .val (.ref bq), .val (.int (1 : Int32)), .val (.int l0), .val (.int k0)]) rfl kt) ?_
  refine go (T' := T1029) (g' := (mkF m 109 #[.val (.int p1), .val (.int p2), .val (.int p3), .val (.int p4), .val (.int p5), .val (.int p6), .val (.int c0), .val (.int c1), .val (.int c2), .val (.ref bq), .val (.int (1 : Int32)), .val (.int l0), .val (.int k0)] [(.ref bq)])) (fun t kt => XS.aload X1029.here hx rfl (hb hby at_107) rfl rfl kt) ?_
  refine go (T' := T1029) (g' := (mkF m 111 #[.val (.int p1), .val (.int p2), .val (.int p3), .val (.int p4), .val (.int p5), .val (.int p6), .val (.int c0), .val (.int c1), .val (.int c2), .val (.ref bq), .val (.int (1 : Int32)), .val (.int l0), .val (.int k0)] [(.int c1), (.ref bq)])) (fun t kt => XS.iload X1029.here hx rfl (hb hby at_109) rfl kt) ?_
  obtain ⟨cq1030, kq1030, q1030a, q1030b, q1030c⟩ := isOf hZ e1029 fE_bq_1025
  obtain ⟨_, _, ⟨T1030, L1030, k1030, n1030⟩, -, X1030, ⟨Lc1030, hQ1030, l1030, y1030, z1030⟩, st1030⟩ := X1029.virtualBack hx (y := (⟨"com/example/exemplum/exemplum/io/TextPosition", "advance", "(I)V"⟩ : MethodName)) (z := (⟨"com/example/exemplum/exemplum/io/TextPosition", "advance", "(I)V"⟩ : MethodName)) hown (mvT hZ (hw _ (List.mem_of_getElem? (i := 17) rfl))) (mvT hZ (hw _ (List.mem_of_getElem? (i := 18) rfl))) (notFace_of_selects (args := #[]) (mvT hZ (hw _ (List.mem_of_getElem? (i := 20) rfl)))) (mvT hZ (hw _ (List.mem_of_getElem? (i := 20) rfl))) (mvT hZ (hw _ (List.mem_of_getElem? (i := 19) rfl))) (by decide) (backOf (W := 0) (rm4 l Z a0 hw [] bq c1 l0 k0 (own_cr c0) T1025.heap n0 z1025 g_bq fE_bq_1025 F1025a F1025b F1025c) hZ (hw _ (List.mem_of_getElem? (i := 21) rfl)) (hw _ (List.mem_of_getElem? (i := 6) rfl)) (by decide) (by decide)) q1030a q1030c (g := (mkF m 111 #[.val (.int p1), .val (.int p2), .val (.int p3), .val (.int p4), .val (.int p5), .val (.int p6), .val (.int c0), .val (.int c1), .val (.int c2), .val (.ref bq), .val (.int (1 : Int32)), .val (.int l0), .val (.int k0)] [(.int c1), (.ref bq)])) rfl (by rw [hml]; rfl) (Steps.refl _) (argsL := [(.int c1)]) (rest := []) (lenOf pd_2 rfl) rfl (by show 2 * 0 + _ ≤ _; exact Nat.le_of_eq rfl) (hb hby at_111) (fun _ _ => ⟨rfl, e1029, (by decide : 1 + 0 ≤ _), (by decide : 3 + 0 ≤ _)⟩)
  dsimp only [Pt.U, Pt.locs, Pt.cells, Pt.slots] at X1030 l1030 y1030 z1030 st1030 hQ1030
  subst l1030 y1030 z1030
  obtain ⟨rfl, N1030q, K1030, F1030a, F1030b, F1030c⟩ := hQ1030
  have N1030 := Fr.app N1029 N1030q
  refine goV (T' := T1030) (g' := (mkF m 114 #[.val (.int p1), .val (.int p2), .val (.int p3), .val (.int p4), .val (.int p5), .val (.int p6), .val (.int c0), .val (.int c1), .val (.int c2), .val (.ref bq), .val (.int (1 : Int32)), .val (.int l0), .val (.int k0)] [])) st1030 ?_
  have z1030 : n0 ≤ T1030.heap.size := Nat.le_trans z1025 K1030.1
  have fE_bq_1030 : Exa Z T1030.heap bq "com/example/exemplum/exemplum/io/TextPosition" := fE_bq_1025.keep K1030
  refine go (T' := T1030) (g' := (mkF m 116 #[.val (.int p1), .val (.int p2), .val (.int p3), .val (.int p4), .val (.int p5), .val (.int p6), .val (.int c0), .val (.int c1), .val (.int c2), .val (.ref bq), .val (.int (1 : Int32)), .val (.int l0), .val (.int k0)] [(.int l0)])) (fun t kt => XS.iload X1030.here hx rfl (hb hby at_114) rfl kt) ?_
  refine go (T' := T1030) (g' := (mkF m 118 #[.val (.int p1), .val (.int p2), .val (.int p3), .val (.int p4), .val (.int p5), .val (.int p6), .val (.int c0), .val (.int c1), .val (.int c2), .val (.ref bq), .val (.int (1 : Int32)), .val (.int l0), .val (.int k0)] [(.int c1), (.int l0)])) (fun t kt => XS.iload X1030.here hx rfl (hb hby at_116) rfl kt) ?_
  refine go (T' := T1030) (g' := (mkF m 120 #[.val (.int p1), .val (.int p2), .val (.int p3), .val (.int p4), .val (.int p5), .val (.int p6), .val (.int c0), .val (.int c1), .val (.int c2), .val (.ref bq), .val (.int (1 : Int32)), .val (.int l0), .val (.int k0)] [(.int c0), (.int c1), (.int l0)])) (fun t kt => XS.iload X1030.here hx rfl (hb hby at_118) rfl kt) ?_
  refine go (T' := T1030) (g' := (mkF m 122 #[.val (.int p1), .val (.int p2), .val (.int p3), .val (.int p4), .val (.int p5), .val (.int p6), .val (.int c0), .val (.int c1), .val (.int c2), .val (.ref bq), .val (.int (1 : Int32)), .val (.int l0), .val (.int k0)] [(.int (13 : Int32)), (.int c0), (.int c1), (.int l0)])) (fun t kt => XS.bipush X1030.here hx rfl (hb hby at_120) kt) ?_
  refine goVia (T₂ := T1030) (g₂ := (mkF m 130 #[.val (.int p1), .val (.int p2), .val (.int p3), .val (.int p4), .val (.int p5), .val (.int p6), .val (.int c0), .val (.int c1), .val (.int c2), .val (.ref bq), .val (.int (1 : Int32)), .val (.int l0), .val (.int k0)] [(.int (own_cr c0)), (.int c1), (.int l0)])) (fun kV => ?_) ?_
  · by_cases hq1 : c0 = (13 : Int32)
    · refine go (T' := T1030) (g' := (mkF m 125 #[.val (.int p1), .val (.int p2), .val (.int p3), .val (.int p4), .val (.int p5), .val (.int p6), .val (.int c0), .val (.int c1), .val (.int c2), .val (.ref bq), .val (.int (1 : Int32)), .val (.int l0), .val (.int k0)] [(.int c1), (.int l0)])) (fun t kt => XS.icmpNo X1030.here hx rfl (hb hby at_122) rfl (teq hq1).2 kt) ?_
      refine go (T' := T1030) (g' := (mkF m 126 #[.val (.int p1), .val (.int p2), .val (.int p3), .val (.int p4), .val (.int p5), .val (.int p6), .val (.int c0), .val (.int c1), .val (.int c2), .val (.ref bq), .val (.int (1 : Int32)), .val (.int l0), .val (.int k0)] [(.int (1 : Int32)), (.int c1), (.int l0)])) (fun t kt => XS.iconst X1030.here hx rfl (hb hby at_125) kt) ?_
      refine go (T' := T1030) (g' := (mkF m 130 #[.val (.int p1), .val (.int p2), .val (.int p3), .val (.int p4), .val (.int p5), .val (.int p6), .val (.int c0), .val (.int c1), .val (.int c2), .val (.ref bq), .val (.int (1 : Int32)), .val (.int l0), .val (.int k0)] [(.int (1 : Int32)), (.int c1), (.int l0)])) (fun t kt => XS.goto X1030.here hx rfl (pc0 := 126) (pc' := 130) rfl (hb hby at_126) (by decide) (by decide) kt) ?_
      exact goEq (by rw [own_cr, if_pos hq1]) kV
    · refine go (T' := T1030) (g' := (mkF m 129 #[.val (.int p1), .val (.int p2), .val (.int p3), .val (.int p4), .val (.int p5), .val (.int p6), .val (.int c0), .val (.int c1), .val (.int c2), .val (.ref bq), .val (.int (1 : Int32)), .val (.int l0), .val (.int k0)] [(.int c1), (.int l0)])) (fun t kt => XS.icmpYes X1030.here hx rfl (pc0 := 122) (pc' := 129) rfl (hb hby at_122) rfl (feq hq1).2 (by decide) (by decide) kt) ?_
      refine go (T' := T1030) (g' := (mkF m 130 #[.val (.int p1), .val (.int p2), .val (.int p3), .val (.int p4), .val (.int p5), .val (.int p6), .val (.int c0), .val (.int c1), .val (.int c2), .val (.ref bq), .val (.int (1 : Int32)), .val (.int l0), .val (.int k0)] [(.int (0 : Int32)), (.int c1), (.int l0)])) (fun t kt => XS.iconst X1030.here hx rfl (hb hby at_129) kt) ?_
      exact goEq (by rw [own_cr, if_neg hq1]) kV
  · obtain ⟨_, _, ⟨T1031, L1031, k1031, n1031⟩, -, X1031, ⟨Lc1031, hQ1031, l1031, y1031, z1031⟩, st1031⟩ := Jvm.LawKit.callS X1030 hx (y := (⟨"com/example/exemplum/exemplum/io/TextPositionAdvancePinLaw", "nextLine", "(IIZ)I"⟩ : MethodName)) hown (mvT hZ (hw _ (List.mem_of_getElem? (i := 24) rfl))) (mvT hZ (hw _ (List.mem_of_getElem? (i := 25) rfl))) (mvT hZ (hw _ (List.mem_of_getElem? (i := 2) rfl))) (mvT hZ (hw _ (List.mem_of_getElem? (i := 26) rfl))) (by decide) (backOf (W := 0) (rm5 l Z a0 hw [] l0 c1 (own_cr c0) T1030.heap n0 z1030) hZ (hw _ (List.mem_of_getElem? (i := 26) rfl)) (hw _ (List.mem_of_getElem? (i := 2) rfl)) (by decide) (by decide)) (g := (mkF m 130 #[.val (.int p1), .val (.int p2), .val (.int p3), .val (.int p4), .val (.int p5), .val (.int p6), .val (.int c0), .val (.int c1), .val (.int c2), .val (.ref bq), .val (.int (1 : Int32)), .val (.int l0), .val (.int k0)] [(.int (own_cr c0)), (.int c1), (.int l0)])) rfl (by rw [hml]; rfl) (argsL := [(.int l0), (.int c1), (.int (own_cr c0))]) (rest := []) (lenOf pd_3 rfl) rfl (by show 2 * 0 + _ ≤ _; exact Nat.le_of_eq rfl) (hb hby at_130) (fun _ _ => ⟨rfl, rfl, (by decide : 1 + 0 ≤ _), (by decide : 3 + 0 ≤ _)⟩)
    dsimp only [Pt.U, Pt.locs, Pt.cells, Pt.slots] at X1031 l1031 y1031 z1031 st1031 hQ1031
    subst l1031 y1031 z1031
    obtain ⟨rfl, N1031q, e1031⟩ := hQ1031
    have N1031 := Fr.app N1030 N1031q
    refine go (T' := T1031) (g' := (mkF m 133 #[.val (.int p1), .val (.int p2), .val (.int p3), .val (.int p4), .val (.int p5), .val (.int p6), .val (.int c0), .val (.int c1), .val (.int c2), .val (.ref bq), .val (.int (1 : Int32)), .val (.int l0), .val (.int k0)] [(.int (own_line l0 c1 (own_cr c0)))])) st1031 ?_
    obtain ⟨l1, e_l1⟩ : ∃ z, z = (own_line l0 c1 (own_cr c0)) := ⟨_, rfl⟩
    refine goEq (g' := (mkF m 133 #[.val (.int p1), .val (.int p2), .val (.int p3), .val (.int p4), .val (.int p5), .val (.int p6), .val (.int c0), .val (.int c1), .val (.int c2), .val (.ref bq), .val (.int (1 : Int32)), .val (.int l0), .val (.int k0)] [(.int l1)])) (by rw [e_l1]) ?_
    rw [← e_l1] at F1030a
    refine go (T' := T1031) (g' := (mkF m 135 #[.val (.int p1), .val (.int p2), .val (.int p3), .val (.int p4), .val (.int p5), .val (.int p6), .val (.int c0), .val (.int c1), .val (.int c2), .val (.ref bq), .val (.int (1 : Int32)), .val (.int l1), .val (.int k0)] [])) (fun t kt => XS.istore X1031.here hx rfl (hb hby at_133) rfl (l' := #[.val (.int p1), .val (.int p2), .val (.int p3), .val (.int p4), .val (.int p5), .val (.int p6), .val (.int c0), .val (.int c1), .val (.int c2), .val (.ref bq), .val (.int (1 : Int32)), .val (.int l1), .val (.int k0)]) rfl kt) ?_
    refine go (T' := T1031) (g' := (mkF m 137 #[.val (.int p1), .val (.int p2), .val (.int p3), .val (.int p4), .val (.int p5), .val (.int p6), .val (.int c0), .val (.int c1), .val (.int c2), .val (.ref bq), .val (.int (1 : Int32)), .val (.int l1), .val (.int k0)] [(.int k0)])) (fun t kt => XS.iload X1031.here hx rfl (hb hby at_135) rfl kt) ?_
    refine go (T' := T1031) (g' := (mkF m 139 #[.val (.int p1), .val (.int p2), .val (.int p3), .val (.int p4), .val (.int p5), .val (.int p6), .val (.int c0), .val (.int c1), .val (.int c2), .val (.ref bq), .val (.int (1 : Int32)), .val (.int l1), .val (.int k0)] [(.int c1), (.int k0)])) (fun t kt => XS.iload X1031.here hx rfl (hb hby at_137) rfl kt) ?_
    obtain ⟨_, _, ⟨T1032, L1032, k1032, n1032⟩, -, X1032, ⟨Lc1032, hQ1032, l1032, y1032, z1032⟩, st1032⟩ := Jvm.LawKit.callS X1031 hx (y := (⟨"com/example/exemplum/exemplum/io/TextPositionAdvancePinLaw", "nextCol", "(II)I"⟩ : MethodName)) hown (mvT hZ (hw _ (List.mem_of_getElem? (i := 27) rfl))) (mvT hZ (hw _ (List.mem_of_getElem? (i := 28) rfl))) (mvT hZ (hw _ (List.mem_of_getElem? (i := 2) rfl))) (mvT hZ (hw _ (List.mem_of_getElem? (i := 29) rfl))) (by decide) (backOf (W := 0) (rm6 l Z a0 hw [] k0 c1 T1030.heap n0 z1030) hZ (hw _ (List.mem_of_getElem? (i := 29) rfl)) (hw _ (List.mem_of_getElem? (i := 2) rfl)) (by decide) (by decide)) (g := (mkF m 139 #[.val (.int p1), .val (.int p2), .val (.int p3), .val (.int p4), .val (.int p5), .val (.int p6), .val (.int c0), .val (.int c1), .val (.int c2), .val (.ref bq), .val (.int (1 : Int32)), .val (.int l1), .val (.int k0)] [(.int c1), (.int k0)])) rfl (by rw [hml]; rfl) (argsL := [(.int k0), (.int c1)]) (rest := []) (lenOf pd_0 rfl) rfl (by show 2 * 0 + _ ≤ _; exact Nat.le_of_eq rfl) (hb hby at_139) (fun _ _ => ⟨rfl, e1031, (by decide : 1 + 0 ≤ _), (by decide : 3 + 0 ≤ _)⟩)
    dsimp only [Pt.U, Pt.locs, Pt.cells, Pt.slots] at X1032 l1032 y1032 z1032 st1032 hQ1032
    subst l1032 y1032 z1032
    obtain ⟨rfl, N1032q, e1032⟩ := hQ1032
    have N1032 := Fr.app N1031 N1032q
    refine go (T' := T1032) (g' := (mkF m 142 #[.val (.int p1), .val (.int p2), .val (.int p3), .val (.int p4), .val (.int p5), .val (.int p6), .val (.int c0), .val (.int c1), .val (.int c2), .val (.ref bq), .val (.int (1 : Int32)), .val (.int l1), .val (.int k0)] [(.int (own_col k0 c1))])) st1032 ?_
    obtain ⟨k1, e_k1⟩ : ∃ z, z = (own_col k0 c1) := ⟨_, rfl⟩
    refine goEq (g' := (mkF m 142 #[.val (.int p1), .val (.int p2), .val (.int p3), .val (.int p4), .val (.int p5), .val (.int p6), .val (.int c0), .val (.int c1), .val (.int c2), .val (.ref bq), .val (.int (1 : Int32)), .val (.int l1), .val (.int k0)] [(.int k1)])) (by rw [e_k1]) ?_
    rw [← e_k1] at F1030b
    refine go (T' := T1032) (g' := (mkF m 144 #[.val (.int p1), .val (.int p2), .val (.int p3), .val (.int p4), .val (.int p5), .val (.int p6), .val (.int c0), .val (.int c1), .val (.int c2), .val (.ref bq), .val (.int (1 : Int32)), .val (.int l1), .val (.int k1)] [])) (fun t kt => XS.istore X1032.here hx rfl (hb hby at_142) rfl (l' := #[.val (.int p1), .val (.int p2), .val (.int p3), .val (.int p4), .val (.int p5), .val (.int p6), .val (.int c0), .val (.int c1), .val (.int c2), .val (.ref bq), .val (.int (1 : Int32)), .val (.int l1), .val (.int k1)]) rfl kt) ?_
    refine go (T' := T1032) (g' := (mkF m 146 #[.val (.int p1), .val (.int p2), .val (.int p3), .val (.int p4), .val (.int p5), .val (.int p6), .val (.int c0), .val (.int c1), .val (.int c2), .val (.ref bq), .val (.int (1 : Int32)), .val (.int l1), .val (.int k1)] [(.int (1 : Int32))])) (fun t kt => XS.iload X1032.here hx rfl (hb hby at_144) rfl kt) ?_
    refine go (T' := T1032) (g' := (mkF m 149 #[.val (.int p1), .val (.int p2), .val (.int p3), .val (.int p4), .val (.int p5), .val (.int p6), .val (.int c0), .val (.int c1), .val (.int c2), .val (.ref bq), .val (.int (1 : Int32)), .val (.int l1), .val (.int k1)] [])) (fun t kt => XS.ifNo X1032.here hx rfl (hb hby at_146) rfl ((if0 _ _).trans (feq own_ne10).1) kt) ?_
    refine go (T' := T1032) (g' := (mkF m 151 #[.val (.int p1), .val (.int p2), .val (.int p3), .val (.int p4), .val (.int p5), .val (.int p6), .val (.int c0), .val (.int c1), .val (.int c2), .val (.ref bq), .val (.int (1 : Int32)), .val (.int l1), .val (.int k1)] [(.ref bq)])) (fun t kt => XS.aload X1032.here hx rfl (hb hby at_149) rfl rfl kt) ?_
    obtain ⟨cq1033, kq1033, q1033a, q1033b, q1033c⟩ := isOf hZ e1032 fE_bq_1030
    obtain ⟨_, _, ⟨T1033, L1033, k1033, n1033⟩, -, X1033, ⟨Lc1033, hQ1033, l1033, y1033, z1033⟩, st1033⟩ := X1032.virtualBack hx (y := (⟨"com/example/exemplum/exemplum/io/TextPosition", "line", "()I"⟩ : MethodName)) (z := (⟨"com/example/exemplum/exemplum/io/TextPosition", "line", "()I"⟩ : MethodName)) hown (mvT hZ (hw _ (List.mem_of_getElem? (i := 30) rfl))) (mvT hZ (hw _ (List.mem_of_getElem? (i := 31) rfl))) (notFace_of_selects (args := #[]) (mvT hZ (hw _ (List.mem_of_getElem? (i := 33) rfl)))) (mvT hZ (hw _ (List.mem_of_getElem? (i := 33) rfl))) (mvT hZ (hw _ (List.mem_of_getElem? (i := 32) rfl))) (by decide) (backOf (W := 0) (rm7 l Z a0 hw [] bq l1 T1030.heap n0 z1030 F1030a) hZ (hw _ (List.mem_of_getElem? (i := 34) rfl)) (hw _ (List.mem_of_getElem? (i := 6) rfl)) (by decide) (by decide)) q1033a q1033c (g := (mkF m 151 #[.val (.int p1), .val (.int p2), .val (.int p3), .val (.int p4), .val (.int p5), .val (.int p6), .val (.int c0), .val (.int c1), .val (.int c2), .val (.ref bq), .val (.int (1 : Int32)), .val (.int l1), .val (.int k1)] [(.ref bq)])) rfl (by rw [hml]; rfl) (Steps.refl _) (argsL := []) (rest := []) (lenOf pd_4 rfl) rfl (by show 2 * 0 + _ ≤ _; exact Nat.le_of_eq rfl) (hb hby at_151) (fun _ _ => ⟨rfl, e1032, (by decide : 1 + 0 ≤ _), (by decide : 3 + 0 ≤ _)⟩)
    dsimp only [Pt.U, Pt.locs, Pt.cells, Pt.slots] at X1033 l1033 y1033 z1033 st1033 hQ1033
    subst l1033 y1033 z1033
    obtain ⟨rfl, N1033q, e1033⟩ := hQ1033
    have N1033 := Fr.app N1032 N1033q
    refine goV (T' := T1033) (g' := (mkF m 154 #[.val (.int p1), .val (.int p2), .val (.int p3), .val (.int p4), .val (.int p5), .val (.int p6), .val (.int c0), .val (.int c1), .val (.int c2), .val (.ref bq), .val (.int (1 : Int32)), .val (.int l1), .val (.int k1)] [(.int l1)])) st1033 ?_
    refine go (T' := T1033) (g' := (mkF m 156 #[.val (.int p1), .val (.int p2), .val (.int p3), .val (.int p4), .val (.int p5), .val (.int p6), .val (.int c0), .val (.int c1), .val (.int c2), .val (.ref bq), .val (.int (1 : Int32)), .val (.int l1), .val (.int k1)] [(.int l1), (.int l1)])) (fun t kt => XS.iload X1033.here hx rfl (hb hby at_154) rfl kt) ?_
    refine go (T' := T1033) (g' := (mkF m 159 #[.val (.int p1), .val (.int p2), .val (.int p3), .val (.int p4), .val (.int p5), .val (.int p6), .val (.int c0), .val (.int c1), .val (.int c2), .val (.ref bq), .val (.int (1 : Int32)), .val (.int l1), .val (.int k1)] [])) (fun t kt => XS.icmpNo X1033.here hx rfl (hb hby at_156) rfl (teq (rfl : l1 = l1)).2 kt) ?_
    refine go (T' := T1033) (g' := (mkF m 161 #[.val (.int p1), .val (.int p2), .val (.int p3), .val (.int p4), .val (.int p5), .val (.int p6), .val (.int c0), .val (.int c1), .val (.int c2), .val (.ref bq), .val (.int (1 : Int32)), .val (.int l1), .val (.int k1)] [(.ref bq)])) (fun t kt => XS.aload X1033.here hx rfl (hb hby at_159) rfl rfl kt) ?_
    obtain ⟨cq1034, kq1034, q1034a, q1034b, q1034c⟩ := isOf hZ e1033 fE_bq_1030
    obtain ⟨_, _, ⟨T1034, L1034, k1034, n1034⟩, -, X1034, ⟨Lc1034, hQ1034, l1034, y1034, z1034⟩, st1034⟩ := X1033.virtualBack hx (y := (⟨"com/example/exemplum/exemplum/io/TextPosition", "column", "()I"⟩ : MethodName)) (z := (⟨"com/example/exemplum/exemplum/io/TextPosition", "column", "()I"⟩ : MethodName)) hown (mvT hZ (hw _ (List.mem_of_getElem? (i := 35) rfl))) (mvT hZ (hw _ (List.mem_of_getElem? (i := 36) rfl))) (notFace_of_selects (args := #[]) (mvT hZ (hw _ (List.mem_of_getElem? (i := 38) rfl)))) (mvT hZ (hw _ (List.mem_of_getElem? (i := 38) rfl))) (mvT hZ (hw _ (List.mem_of_getElem? (i := 37) rfl))) (by decide) (backOf (W := 0) (rm8 l Z a0 hw [] bq k1 T1030.heap n0 z1030 F1030b) hZ (hw _ (List.mem_of_getElem? (i := 39) rfl)) (hw _ (List.mem_of_getElem? (i := 6) rfl)) (by decide) (by decide)) q1034a q1034c (g := (mkF m 161 #[.val (.int p1), .val (.int p2), .val (.int p3), .val (.int p4), .val (.int p5), .val (.int p6), .val (.int c0), .val (.int c1), .val (.int c2), .val (.ref bq), .val (.int (1 : Int32)), .val (.int l1), .val (.int k1)] [(.ref bq)])) rfl (by rw [hml]; rfl) (Steps.refl _) (argsL := []) (rest := []) (lenOf pd_4 rfl) rfl (by show 2 * 0 + _ ≤ _; exact Nat.le_of_eq rfl) (hb hby at_161) (fun _ _ => ⟨rfl, e1033, (by decide : 1 + 0 ≤ _), (by decide : 3 + 0 ≤ _)⟩)
    dsimp only [Pt.U, Pt.locs, Pt.cells, Pt.slots] at X1034 l1034 y1034 z1034 st1034 hQ1034
    subst l1034 y1034 z1034
    obtain ⟨rfl, N1034q, e1034⟩ := hQ1034
    have N1034 := Fr.app N1033 N1034q
    refine goV (T' := T1034) (g' := (mkF m 164 #[.val (.int p1), .val (.int p2), .val (.int p3), .val (.int p4), .val (.int p5), .val (.int p6), .val (.int c0), .val (.int c1), .val (.int c2), .val (.ref bq), .val (.int (1 : Int32)), .val (.int l1), .val (.int k1)] [(.int k1)])) st1034 ?_
    refine go (T' := T1034) (g' := (mkF m 166 #[.val (.int p1), .val (.int p2), .val (.int p3), .val (.int p4), .val (.int p5), .val (.int p6), .val (.int c0), .val (.int c1), .val (.int c2), .val (.ref bq), .val (.int (1 : Int32)), .val (.int l1), .val (.int k1)] [(.int k1), (.int k1)])) (fun t kt => XS.iload X1034.here hx rfl (hb hby at_164) rfl kt) ?_
    refine go (T' := T1034) (g' := (mkF m 169 #[.val (.int p1), .val (.int p2), .val (.int p3), .val (.int p4), .val (.int p5), .val (.int p6), .val (.int c0), .val (.int c1), .val (.int c2), .val (.ref bq), .val (.int (1 : Int32)), .val (.int l1), .val (.int k1)] [])) (fun t kt => XS.icmpNo X1034.here hx rfl (hb hby at_166) rfl (teq (rfl : k1 = k1)).2 kt) ?_
    refine go (T' := T1034) (g' := (mkF m 170 #[.val (.int p1), .val (.int p2), .val (.int p3), .val (.int p4), .val (.int p5), .val (.int p6), .val (.int c0), .val (.int c1), .val (.int c2), .val (.ref bq), .val (.int (1 : Int32)), .val (.int l1), .val (.int k1)] [(.int (1 : Int32))])) (fun t kt => XS.iconst X1034.here hx rfl (hb hby at_169) kt) ?_
    refine go (T' := T1034) (g' := (mkF m 174 #[.val (.int p1), .val (.int p2), .val (.int p3), .val (.int p4), .val (.int p5), .val (.int p6), .val (.int c0), .val (.int c1), .val (.int c2), .val (.ref bq), .val (.int (1 : Int32)), .val (.int l1), .val (.int k1)] [(.int (1 : Int32))])) (fun t kt => XS.goto X1034.here hx rfl (pc0 := 170) (pc' := 174) rfl (hb hby at_170) (by decide) (by decide) kt) ?_
    refine go (T' := T1034) (g' := (mkF m 176 #[.val (.int p1), .val (.int p2), .val (.int p3), .val (.int p4), .val (.int p5), .val (.int p6), .val (.int c0), .val (.int c1), .val (.int c2), .val (.ref bq), .val (.int (1 : Int32)), .val (.int l1), .val (.int k1)] [])) (fun t kt => XS.istore X1034.here hx rfl (hb hby at_174) rfl (l' := #[.val (.int p1), .val (.int p2), .val (.int p3), .val (.int p4), .val (.int p5), .val (.int p6), .val (.int c0), .val (.int c1), .val (.int c2), .val (.ref bq), .val (.int (1 : Int32)), .val (.int l1), .val (.int k1)]) rfl kt) ?_
    refine go (T' := T1034) (g' := (mkF m 178 #[.val (.int p1), .val (.int p2), .val (.int p3), .val (.int p4), .val (.int p5), .val (.int p6), .val (.int c0), .val (.int c1), .val (.int c2), .val (.ref bq), .val (.int (1 : Int32)), .val (.int l1), .val (.int k1)] [(.ref bq)])) (fun t kt => XS.aload X1034.here hx rfl (hb hby at_176) rfl rfl kt) ?_
    refine go (T' := T1034) (g' := (mkF m 180 #[.val (.int p1), .val (.int p2), .val (.int p3), .val (.int p4), .val (.int p5), .val (.int p6), .val (.int c0), .val (.int c1), .val (.int c2), .val (.ref bq), .val (.int (1 : Int32)), .val (.int l1), .val (.int k1)] [(.int c2), (.ref bq)])) (fun t kt => XS.iload X1034.here hx rfl (hb hby at_178) rfl kt) ?_
    obtain ⟨cq1035, kq1035, q1035a, q1035b, q1035c⟩ := isOf hZ e1034 fE_bq_1030
    obtain ⟨_, _, ⟨T1035, L1035, k1035, n1035⟩, -, X1035, ⟨Lc1035, hQ1035, l1035, y1035, z1035⟩, st1035⟩ := X1034.virtualBack hx (y := (⟨"com/example/exemplum/exemplum/io/TextPosition", "advance", "(I)V"⟩ : MethodName)) (z := (⟨"com/example/exemplum/exemplum/io/TextPosition", "advance", "(I)V"⟩ : MethodName)) hown (mvT hZ (hw _ (List.mem_of_getElem? (i := 17) rfl))) (mvT hZ (hw _ (List.mem_of_getElem? (i := 18) rfl))) (notFace_of_selects (args := #[]) (mvT hZ (hw _ (List.mem_of_getElem? (i := 20) rfl)))) (mvT hZ (hw _ (List.mem_of_getElem? (i := 20) rfl))) (mvT hZ (hw _ (List.mem_of_getElem? (i := 19) rfl))) (by decide) (backOf (W := 0) (rm4 l Z a0 hw [] bq c2 l1 k1 (own_cr c1) T1030.heap n0 z1030 g_bq fE_bq_1030 F1030a F1030b F1030c) hZ (hw _ (List.mem_of_getElem? (i := 21) rfl)) (hw _ (List.mem_of_getElem? (i := 6) rfl)) (by decide) (by decide)) q1035a q1035c (g := (mkF m 180 #[.val (.int p1), .val (.int p2), .val (.int p3), .val (.int p4), .val (.int p5), .val (.int p6), .val (.int c0), .val (.int c1), .val (.int c2), .val (.ref bq), .val (.int (1 : Int32)), .val (.int l1), .val (.int k1)] [(.int c2), (.ref bq)])) rfl (by rw [hml]; rfl) (Steps.refl _) (argsL := [(.int c2)]) (rest := []) (lenOf pd_2 rfl) rfl (by show 2 * 0 + _ ≤ _; exact Nat.le_of_eq rfl) (hb hby at_180) (fun _ _ => ⟨rfl, e1034, (by decide : 1 + 0 ≤ _), (by decide : 3 + 0 ≤ _)⟩)
    dsimp only [Pt.U, Pt.locs, Pt.cells, Pt.slots] at X1035 l1035 y1035 z1035 st1035 hQ1035
    subst l1035 y1035 z1035
    obtain ⟨rfl, N1035q, K1035, F1035a, F1035b, F1035c⟩ := hQ1035
    have N1035 := Fr.app N1034 N1035q
    refine goV (T' := T1035) (g' := (mkF m 183 #[.val (.int p1), .val (.int p2), .val (.int p3), .val (.int p4), .val (.int p5), .val (.int p6), .val (.int c0), .val (.int c1), .val (.int c2), .val (.ref bq), .val (.int (1 : Int32)), .val (.int l1), .val (.int k1)] [])) st1035 ?_
    have z1035 : n0 ≤ T1035.heap.size := Nat.le_trans z1030 K1035.1
    have fE_bq_1035 : Exa Z T1035.heap bq "com/example/exemplum/exemplum/io/TextPosition" := fE_bq_1030.keep K1035
    refine go (T' := T1035) (g' := (mkF m 185 #[.val (.int p1), .val (.int p2), .val (.int p3), .val (.int p4), .val (.int p5), .val (.int p6), .val (.int c0), .val (.int c1), .val (.int c2), .val (.ref bq), .val (.int (1 : Int32)), .val (.int l1), .val (.int k1)] [(.int l1)])) (fun t kt => XS.iload X1035.here hx rfl (hb hby at_183) rfl kt) ?_
    refine go (T' := T1035) (g' := (mkF m 187 #[.val (.int p1), .val (.int p2), .val (.int p3), .val (.int p4), .val (.int p5), .val (.int p6), .val (.int c0), .val (.int c1), .val (.int c2), .val (.ref bq), .val (.int (1 : Int32)), .val (.int l1), .val (.int k1)] [(.int c2), (.int l1)])) (fun t kt => XS.iload X1035.here hx rfl (hb hby at_185) rfl kt) ?_
    refine go (T' := T1035) (g' := (mkF m 189 #[.val (.int p1), .val (.int p2), .val (.int p3), .val (.int p4), .val (.int p5), .val (.int p6), .val (.int c0), .val (.int c1), .val (.int c2), .val (.ref bq), .val (.int (1 : Int32)), .val (.int l1), .val (.int k1)] [(.int c1), (.int c2), (.int l1)])) (fun t kt => XS.iload X1035.here hx rfl (hb hby at_187) rfl kt) ?_
    refine go (T' := T1035) (g' := (mkF m 191 #[.val (.int p1), .val (.int p2), .val (.int p3), .val (.int p4), .val (.int p5), .val (.int p6), .val (.int c0), .val (.int c1), .val (.int c2), .val (.ref bq), .val (.int (1 : Int32)), .val (.int l1), .val (.int k1)] [(.int (13 : Int32)), (.int c1), (.int c2), (.int l1)])) (fun t kt => XS.bipush X1035.here hx rfl (hb hby at_189) kt) ?_
    refine goVia (T₂ := T1035) (g₂ := (mkF m 199 #[.val (.int p1), .val (.int p2), .val (.int p3), .val (.int p4), .val (.int p5), .val (.int p6), .val (.int c0), .val (.int c1), .val (.int c2), .val (.ref bq), .val (.int (1 : Int32)), .val (.int l1), .val (.int k1)] [(.int (own_cr c1)), (.int c2), (.int l1)])) (fun kV => ?_) ?_
    · by_cases hq2 : c1 = (13 : Int32)
      · refine go (T' := T1035) (g' := (mkF m 194 #[.val (.int p1), .val (.int p2), .val (.int p3), .val (.int p4), .val (.int p5), .val (.int p6), .val (.int c0), .val (.int c1), .val (.int c2), .val (.ref bq), .val (.int (1 : Int32)), .val (.int l1), .val (.int k1)] [(.int c2), (.int l1)])) (fun t kt => XS.icmpNo X1035.here hx rfl (hb hby at_191) rfl (teq hq2).2 kt) ?_
        refine go (T' := T1035) (g' := (mkF m 195 #[.val (.int p1), .val (.int p2), .val (.int p3), .val (.int p4), .val (.int p5), .val (.int p6), .val (.int c0), .val (.int c1), .val (.int c2), .val (.ref bq), .val (.int (1 : Int32)), .val (.int l1), .val (.int k1)] [(.int (1 : Int32)), (.int c2), (.int l1)])) (fun t kt => XS.iconst X1035.here hx rfl (hb hby at_194) kt) ?_
        refine go (T' := T1035) (g' := (mkF m 199 #[.val (.int p1), .val (.int p2), .val (.int p3), .val (.int p4), .val (.int p5), .val (.int p6), .val (.int c0), .val (.int c1), .val (.int c2), .val (.ref bq), .val (.int (1 : Int32)), .val (.int l1), .val (.int k1)] [(.int (1 : Int32)), (.int c2), (.int l1)])) (fun t kt => XS.goto X1035.here hx rfl (pc0 := 195) (pc' := 199) rfl (hb hby at_195) (by decide) (by decide) kt) ?_
        exact goEq (by rw [own_cr, if_pos hq2]) kV
      · refine go (T' := T1035) (g' := (mkF m 198 #[.val (.int p1), .val (.int p2), .val (.int p3), .val (.int p4), .val (.int p5), .val (.int p6), .val (.int c0), .val (.int c1), .val (.int c2), .val (.ref bq), .val (.int (1 : Int32)), .val (.int l1), .val (.int k1)] [(.int c2), (.int l1)])) (fun t kt => XS.icmpYes X1035.here hx rfl (pc0 := 191) (pc' := 198) rfl (hb hby at_191) rfl (feq hq2).2 (by decide) (by decide) kt) ?_
        refine go (T' := T1035) (g' := (mkF m 199 #[.val (.int p1), .val (.int p2), .val (.int p3), .val (.int p4), .val (.int p5), .val (.int p6), .val (.int c0), .val (.int c1), .val (.int c2), .val (.ref bq), .val (.int (1 : Int32)), .val (.int l1), .val (.int k1)] [(.int (0 : Int32)), (.int c2), (.int l1)])) (fun t kt => XS.iconst X1035.here hx rfl (hb hby at_198) kt) ?_
        exact goEq (by rw [own_cr, if_neg hq2]) kV
    · obtain ⟨_, _, ⟨T1036, L1036, k1036, n1036⟩, -, X1036, ⟨Lc1036, hQ1036, l1036, y1036, z1036⟩, st1036⟩ := Jvm.LawKit.callS X1035 hx (y := (⟨"com/example/exemplum/exemplum/io/TextPositionAdvancePinLaw", "nextLine", "(IIZ)I"⟩ : MethodName)) hown (mvT hZ (hw _ (List.mem_of_getElem? (i := 24) rfl))) (mvT hZ (hw _ (List.mem_of_getElem? (i := 25) rfl))) (mvT hZ (hw _ (List.mem_of_getElem? (i := 2) rfl))) (mvT hZ (hw _ (List.mem_of_getElem? (i := 26) rfl))) (by decide) (backOf (W := 0) (rm5 l Z a0 hw [] l1 c2 (own_cr c1) T1035.heap n0 z1035) hZ (hw _ (List.mem_of_getElem? (i := 26) rfl)) (hw _ (List.mem_of_getElem? (i := 2) rfl)) (by decide) (by decide)) (g := (mkF m 199 #[.val (.int p1), .val (.int p2), .val (.int p3), .val (.int p4), .val (.int p5), .val (.int p6), .val (.int c0), .val (.int c1), .val (.int c2), .val (.ref bq), .val (.int (1 : Int32)), .val (.int l1), .val (.int k1)] [(.int (own_cr c1)), (.int c2), (.int l1)])) rfl (by rw [hml]; rfl) (argsL := [(.int l1), (.int c2), (.int (own_cr c1))]) (rest := []) (lenOf pd_3 rfl) rfl (by show 2 * 0 + _ ≤ _; exact Nat.le_of_eq rfl) (hb hby at_199) (fun _ _ => ⟨rfl, rfl, (by decide : 1 + 0 ≤ _), (by decide : 3 + 0 ≤ _)⟩)
      dsimp only [Pt.U, Pt.locs, Pt.cells, Pt.slots] at X1036 l1036 y1036 z1036 st1036 hQ1036
      subst l1036 y1036 z1036
      obtain ⟨rfl, N1036q, e1036⟩ := hQ1036
      have N1036 := Fr.app N1035 N1036q
      refine go (T' := T1036) (g' := (mkF m 202 #[.val (.int p1), .val (.int p2), .val (.int p3), .val (.int p4), .val (.int p5), .val (.int p6), .val (.int c0), .val (.int c1), .val (.int c2), .val (.ref bq), .val (.int (1 : Int32)), .val (.int l1), .val (.int k1)] [(.int (own_line l1 c2 (own_cr c1)))])) st1036 ?_
      obtain ⟨l2, e_l2⟩ : ∃ z, z = (own_line l1 c2 (own_cr c1)) := ⟨_, rfl⟩
      refine goEq (g' := (mkF m 202 #[.val (.int p1), .val (.int p2), .val (.int p3), .val (.int p4), .val (.int p5), .val (.int p6), .val (.int c0), .val (.int c1), .val (.int c2), .val (.ref bq), .val (.int (1 : Int32)), .val (.int l1), .val (.int k1)] [(.int l2)])) (by rw [e_l2]) ?_
      rw [← e_l2] at F1035a
      refine go (T' := T1036) (g' := (mkF m 204 #[.val (.int p1), .val (.int p2), .val (.int p3), .val (.int p4), .val (.int p5), .val (.int p6), .val (.int c0), .val (.int c1), .val (.int c2), .val (.ref bq), .val (.int (1 : Int32)), .val (.int l2), .val (.int k1)] [])) (fun t kt => XS.istore X1036.here hx rfl (hb hby at_202) rfl (l' := #[.val (.int p1), .val (.int p2), .val (.int p3), .val (.int p4), .val (.int p5), .val (.int p6), .val (.int c0), .val (.int c1), .val (.int c2), .val (.ref bq), .val (.int (1 : Int32)), .val (.int l2), .val (.int k1)]) rfl kt) ?_
      refine go (T' := T1036) (g' := (mkF m 206 #[.val (.int p1), .val (.int p2), .val (.int p3), .val (.int p4), .val (.int p5), .val (.int p6), .val (.int c0), .val (.int c1), .val (.int c2), .val (.ref bq), .val (.int (1 : Int32)), .val (.int l2), .val (.int k1)] [(.int k1)])) (fun t kt => XS.iload X1036.here hx rfl (hb hby at_204) rfl kt) ?_
      refine go (T' := T1036) (g' := (mkF m 208 #[.val (.int p1), .val (.int p2), .val (.int p3), .val (.int p4), .val (.int p5), .val (.int p6), .val (.int c0), .val (.int c1), .val (.int c2), .val (.ref bq), .val (.int (1 : Int32)), .val (.int l2), .val (.int k1)] [(.int c2), (.int k1)])) (fun t kt => XS.iload X1036.here hx rfl (hb hby at_206) rfl kt) ?_
      obtain ⟨_, _, ⟨T1037, L1037, k1037, n1037⟩, -, X1037, ⟨Lc1037, hQ1037, l1037, y1037, z1037⟩, st1037⟩ := Jvm.LawKit.callS X1036 hx (y := (⟨"com/example/exemplum/exemplum/io/TextPositionAdvancePinLaw", "nextCol", "(II)I"⟩ : MethodName)) hown (mvT hZ (hw _ (List.mem_of_getElem? (i := 27) rfl))) (mvT hZ (hw _ (List.mem_of_getElem? (i := 28) rfl))) (mvT hZ (hw _ (List.mem_of_getElem? (i := 2) rfl))) (mvT hZ (hw _ (List.mem_of_getElem? (i := 29) rfl))) (by decide) (backOf (W := 0) (rm6 l Z a0 hw [] k1 c2 T1035.heap n0 z1035) hZ (hw _ (List.mem_of_getElem? (i := 29) rfl)) (hw _ (List.mem_of_getElem? (i := 2) rfl)) (by decide) (by decide)) (g := (mkF m 208 #[.val (.int p1), .val (.int p2), .val (.int p3), .val (.int p4), .val (.int p5), .val (.int p6), .val (.int c0), .val (.int c1), .val (.int c2), .val (.ref bq), .val (.int (1 : Int32)), .val (.int l2), .val (.int k1)] [(.int c2), (.int k1)])) rfl (by rw [hml]; rfl) (argsL := [(.int k1), (.int c2)]) (rest := []) (lenOf pd_0 rfl) rfl (by show 2 * 0 + _ ≤ _; exact Nat.le_of_eq rfl) (hb hby at_208) (fun _ _ => ⟨rfl, e1036, (by decide : 1 + 0 ≤ _), (by decide : 3 + 0 ≤ _)⟩)
      dsimp only [Pt.U, Pt.locs, Pt.cells, Pt.slots] at X1037 l1037 y1037 z1037 st1037 hQ1037
      subst l1037 y1037 z1037
      obtain ⟨rfl, N1037q, e1037⟩ := hQ1037
      have N1037 := Fr.app N1036 N1037q
      refine go (T' := T1037) (g' := (mkF m 211 #[.val (.int p1), .val (.int p2), .val (.int p3), .val (.int p4), .val (.int p5), .val (.int p6), .val (.int c0), .val (.int c1), .val (.int c2), .val (.ref bq), .val (.int (1 : Int32)), .val (.int l2), .val (.int k1)] [(.int (own_col k1 c2))])) st1037 ?_
      obtain ⟨k2, e_k2⟩ : ∃ z, z = (own_col k1 c2) := ⟨_, rfl⟩
      refine goEq (g' := (mkF m 211 #[.val (.int p1), .val (.int p2), .val (.int p3), .val (.int p4), .val (.int p5), .val (.int p6), .val (.int c0), .val (.int c1), .val (.int c2), .val (.ref bq), .val (.int (1 : Int32)), .val (.int l2), .val (.int k1)] [(.int k2)])) (by rw [e_k2]) ?_
      rw [← e_k2] at F1035b
      refine go (T' := T1037) (g' := (mkF m 213 #[.val (.int p1), .val (.int p2), .val (.int p3), .val (.int p4), .val (.int p5), .val (.int p6), .val (.int c0), .val (.int c1), .val (.int c2), .val (.ref bq), .val (.int (1 : Int32)), .val (.int l2), .val (.int k2)] [])) (fun t kt => XS.istore X1037.here hx rfl (hb hby at_211) rfl (l' := #[.val (.int p1), .val (.int p2), .val (.int p3), .val (.int p4), .val (.int p5), .val (.int p6), .val (.int c0), .val (.int c1), .val (.int c2), .val (.ref bq), .val (.int (1 : Int32)), .val (.int l2), .val (.int k2)]) rfl kt) ?_
      refine go (T' := T1037) (g' := (mkF m 215 #[.val (.int p1), .val (.int p2), .val (.int p3), .val (.int p4), .val (.int p5), .val (.int p6), .val (.int c0), .val (.int c1), .val (.int c2), .val (.ref bq), .val (.int (1 : Int32)), .val (.int l2), .val (.int k2)] [(.int (1 : Int32))])) (fun t kt => XS.iload X1037.here hx rfl (hb hby at_213) rfl kt) ?_
      refine go (T' := T1037) (g' := (mkF m 218 #[.val (.int p1), .val (.int p2), .val (.int p3), .val (.int p4), .val (.int p5), .val (.int p6), .val (.int c0), .val (.int c1), .val (.int c2), .val (.ref bq), .val (.int (1 : Int32)), .val (.int l2), .val (.int k2)] [])) (fun t kt => XS.ifNo X1037.here hx rfl (hb hby at_215) rfl ((if0 _ _).trans (feq own_ne10).1) kt) ?_
      refine go (T' := T1037) (g' := (mkF m 220 #[.val (.int p1), .val (.int p2), .val (.int p3), .val (.int p4), .val (.int p5), .val (.int p6), .val (.int c0), .val (.int c1), .val (.int c2), .val (.ref bq), .val (.int (1 : Int32)), .val (.int l2), .val (.int k2)] [(.ref bq)])) (fun t kt => XS.aload X1037.here hx rfl (hb hby at_218) rfl rfl kt) ?_
      obtain ⟨cq1038, kq1038, q1038a, q1038b, q1038c⟩ := isOf hZ e1037 fE_bq_1035
      obtain ⟨_, _, ⟨T1038, L1038, k1038, n1038⟩, -, X1038, ⟨Lc1038, hQ1038, l1038, y1038, z1038⟩, st1038⟩ := X1037.virtualBack hx (y := (⟨"com/example/exemplum/exemplum/io/TextPosition", "line", "()I"⟩ : MethodName)) (z := (⟨"com/example/exemplum/exemplum/io/TextPosition", "line", "()I"⟩ : MethodName)) hown (mvT hZ (hw _ (List.mem_of_getElem? (i := 30) rfl))) (mvT hZ (hw _ (List.mem_of_getElem? (i := 31) rfl))) (notFace_of_selects (args := #[]) (mvT hZ (hw _ (List.mem_of_getElem? (i := 33) rfl)))) (mvT hZ (hw _ (List.mem_of_getElem? (i := 33) rfl))) (mvT hZ (hw _ (List.mem_of_getElem? (i := 32) rfl))) (by decide) (backOf (W := 0) (rm7 l Z a0 hw [] bq l2 T1035.heap n0 z1035 F1035a) hZ (hw _ (List.mem_of_getElem? (i := 34) rfl)) (hw _ (List.mem_of_getElem? (i := 6) rfl)) (by decide) (by decide)) q1038a q1038c (g := (mkF m 220 #[.val (.int p1), .val (.int p2), .val (.int p3), .val (.int p4), .val (.int p5), .val (.int p6), .val (.int c0), .val (.int c1), .val (.int c2), .val (.ref bq), .val (.int (1 : Int32)), .val (.int l2), .val (.int k2)] [(.ref bq)])) rfl (by rw [hml]; rfl) (Steps.refl _) (argsL := []) (rest := []) (lenOf pd_4 rfl) rfl (by show 2 * 0 + _ ≤ _; exact Nat.le_of_eq rfl) (hb hby at_220) (fun _ _ => ⟨rfl, e1037, (by decide : 1 + 0 ≤ _), (by decide : 3 + 0 ≤ _)⟩)
      dsimp only [Pt.U, Pt.locs, Pt.cells, Pt.slots] at X1038 l1038 y1038 z1038 st1038 hQ1038
      subst l1038 y1038 z1038
      obtain ⟨rfl, N1038q, e1038⟩ := hQ1038
      have N1038 := Fr.app N1037 N1038q
      refine goV (T' := T1038) (g' := (mkF m 223 #[.val (.int p1), .val (.int p2), .val (.int p3), .val (.int p4), .val (.int p5), .val (.int p6), .val (.int c0), .val (.int c1), .val (.int c2), .val (.ref bq), .val (.int (1 : Int32)), .val (.int l2), .val (.int k2)] [(.int l2)])) st1038 ?_
      refine go (T' := T1038) (g' := (mkF m 225 #[.val (.int p1), .val (.int p2), .val (.int p3), .val (.int p4), .val (.int p5), .val (.int p6), .val (.int c0), .val (.int c1), .val (.int c2), .val (.ref bq), .val (.int (1 : Int32)), .val (.int l2), .val (.int k2)] [(.int l2), (.int l2)])) (fun t kt => XS.iload X1038.here hx rfl (hb hby at_223) rfl kt) ?_
      refine go (T' := T1038) (g' := (mkF m 228 #[.val (.int p1), .val (.int p2), .val (.int p3), .val (.int p4), .val (.int p5), .val (.int p6), .val (.int c0), .val (.int c1), .val (.int c2), .val (.ref bq), .val (.int (1 : Int32)), .val (.int l2), .val (.int k2)] [])) (fun t kt => XS.icmpNo X1038.here hx rfl (hb hby at_225) rfl (teq (rfl : l2 = l2)).2 kt) ?_
      refine go (T' := T1038) (g' := (mkF m 230 #[.val (.int p1), .val (.int p2), .val (.int p3), .val (.int p4), .val (.int p5), .val (.int p6), .val (.int c0), .val (.int c1), .val (.int c2), .val (.ref bq), .val (.int (1 : Int32)), .val (.int l2), .val (.int k2)] [(.ref bq)])) (fun t kt => XS.aload X1038.here hx rfl (hb hby at_228) rfl rfl kt) ?_
      obtain ⟨cq1039, kq1039, q1039a, q1039b, q1039c⟩ := isOf hZ e1038 fE_bq_1035
      obtain ⟨_, _, ⟨T1039, L1039, k1039, n1039⟩, -, X1039, ⟨Lc1039, hQ1039, l1039, y1039, z1039⟩, st1039⟩ := X1038.virtualBack hx (y := (⟨"com/example/exemplum/exemplum/io/TextPosition", "column", "()I"⟩ : MethodName)) (z := (⟨"com/example/exemplum/exemplum/io/TextPosition", "column", "()I"⟩ : MethodName)) hown (mvT hZ (hw _ (List.mem_of_getElem? (i := 35) rfl))) (mvT hZ (hw _ (List.mem_of_getElem? (i := 36) rfl))) (notFace_of_selects (args := #[]) (mvT hZ (hw _ (List.mem_of_getElem? (i := 38) rfl)))) (mvT hZ (hw _ (List.mem_of_getElem? (i := 38) rfl))) (mvT hZ (hw _ (List.mem_of_getElem? (i := 37) rfl))) (by decide) (backOf (W := 0) (rm8 l Z a0 hw [] bq k2 T1035.heap n0 z1035 F1035b) hZ (hw _ (List.mem_of_getElem? (i := 39) rfl)) (hw _ (List.mem_of_getElem? (i := 6) rfl)) (by decide) (by decide)) q1039a q1039c (g := (mkF m 230 #[.val (.int p1), .val (.int p2), .val (.int p3), .val (.int p4), .val (.int p5), .val (.int p6), .val (.int c0), .val (.int c1), .val (.int c2), .val (.ref bq), .val (.int (1 : Int32)), .val (.int l2), .val (.int k2)] [(.ref bq)])) rfl (by rw [hml]; rfl) (Steps.refl _) (argsL := []) (rest := []) (lenOf pd_4 rfl) rfl (by show 2 * 0 + _ ≤ _; exact Nat.le_of_eq rfl) (hb hby at_230) (fun _ _ => ⟨rfl, e1038, (by decide : 1 + 0 ≤ _), (by decide : 3 + 0 ≤ _)⟩)
      dsimp only [Pt.U, Pt.locs, Pt.cells, Pt.slots] at X1039 l1039 y1039 z1039 st1039 hQ1039
      subst l1039 y1039 z1039
      obtain ⟨rfl, N1039q, e1039⟩ := hQ1039
      have N1039 := Fr.app N1038 N1039q
      refine goV (T' := T1039) (g' := (mkF m 233 #[.val (.int p1), .val (.int p2), .val (.int p3), .val (.int p4), .val (.int p5), .val (.int p6), .val (.int c0), .val (.int c1), .val (.int c2), .val (.ref bq), .val (.int (1 : Int32)), .val (.int l2), .val (.int k2)] [(.int k2)])) st1039 ?_
      refine go (T' := T1039) (g' := (mkF m 235 #[.val (.int p1), .val (.int p2), .val (.int p3), .val (.int p4), .val (.int p5), .val (.int p6), .val (.int c0), .val (.int c1), .val (.int c2), .val (.ref bq), .val (.int (1 : Int32)), .val (.int l2), .val (.int k2)] [(.int k2), (.int k2)])) (fun t kt => XS.iload X1039.here hx rfl (hb hby at_233) rfl kt) ?_
      refine go (T' := T1039) (g' := (mkF m 238 #[.val (.int p1), .val (.int p2), .val (.int p3), .val (.int p4), .val (.int p5), .val (.int p6), .val (.int c0), .val (.int c1), .val (.int c2), .val (.ref bq), .val (.int (1 : Int32)), .val (.int l2), .val (.int k2)] [])) (fun t kt => XS.icmpNo X1039.here hx rfl (hb hby at_235) rfl (teq (rfl : k2 = k2)).2 kt) ?_
      refine go (T' := T1039) (g' := (mkF m 239 #[.val (.int p1), .val (.int p2), .val (.int p3), .val (.int p4), .val (.int p5), .val (.int p6), .val (.int c0), .val (.int c1), .val (.int c2), .val (.ref bq), .val (.int (1 : Int32)), .val (.int l2), .val (.int k2)] [(.int (1 : Int32))])) (fun t kt => XS.iconst X1039.here hx rfl (hb hby at_238) kt) ?_
      refine go (T' := T1039) (g' := (mkF m 243 #[.val (.int p1), .val (.int p2), .val (.int p3), .val (.int p4), .val (.int p5), .val (.int p6), .val (.int c0), .val (.int c1), .val (.int c2), .val (.ref bq), .val (.int (1 : Int32)), .val (.int l2), .val (.int k2)] [(.int (1 : Int32))])) (fun t kt => XS.goto X1039.here hx rfl (pc0 := 239) (pc' := 243) rfl (hb hby at_239) (by decide) (by decide) kt) ?_
      refine go (T' := T1039) (g' := (mkF m 245 #[.val (.int p1), .val (.int p2), .val (.int p3), .val (.int p4), .val (.int p5), .val (.int p6), .val (.int c0), .val (.int c1), .val (.int c2), .val (.ref bq), .val (.int (1 : Int32)), .val (.int l2), .val (.int k2)] [])) (fun t kt => XS.istore X1039.here hx rfl (hb hby at_243) rfl (l' := #[.val (.int p1), .val (.int p2), .val (.int p3), .val (.int p4), .val (.int p5), .val (.int p6), .val (.int c0), .val (.int c1), .val (.int c2), .val (.ref bq), .val (.int (1 : Int32)), .val (.int l2), .val (.int k2)]) rfl kt) ?_
      refine go (T' := T1039) (g' := (mkF m 247 #[.val (.int p1), .val (.int p2), .val (.int p3), .val (.int p4), .val (.int p5), .val (.int p6), .val (.int c0), .val (.int c1), .val (.int c2), .val (.ref bq), .val (.int (1 : Int32)), .val (.int l2), .val (.int k2)] [(.int (1 : Int32))])) (fun t kt => XS.iload X1039.here hx rfl (hb hby at_245) rfl kt) ?_
      refine goRetN X1039 hx hlk (t := .boolean) Bd.returns (by simp) (hb hby at_247) ?_ (by decide) (by decide)
      rw [e1039]
      exact ⟨rfl, N1039⟩
set_option maxRecDepth 65536 in
set_option maxHeartbeats 40000000 in
theorem comes_1 {Post : Tables → Env → Array Value → State → Outcome → State → Prop} (hpost : ∀ tb e args s v u, (limb_1_1.after args s (.returned v) u = true ∧ limb_1_2.after args s (.returned v) u = true ∧ True) → FrameEnd s (.returned v) u (Jvm.fieldLocs frame_1_writes args s ++ Jvm.arrayLocs frame_1_arrays args s ++ Jvm.staticLocs frame_1_statics s) 16 128 → Post tb e args s (.returned v) u) :
    ArmFor flags0 classFile x code maxLocals ret World_1 tables_1 room_1 Calls_1 rest_1 Pre_1 Post := by
  intro l hfl _ _ p e ha hc hk s m args below hf hA hF happ hP
  obtain ⟨hcalls, hrest, hpre⟩ := hP
  obtain ⟨-, -, -, hnamed, -, -, -, hat⟩ := (Spec.applies_iff hf).mp happ
  obtain ⟨hg, hn⟩ := and_e (Cond.before_iff.mp (show (Jvm.Cond.and given_1 narrow_1).before args s = true from hpre))
  obtain ⟨g2, g2'⟩ := and_e hg
  obtain ⟨g4, g4'⟩ := and_e g2'
  obtain ⟨g6, g6'⟩ := and_e g4'
  obtain ⟨g8, g8'⟩ := and_e g6'
  obtain ⟨g10, g10'⟩ := and_e g8'
  obtain ⟨g12, g12'⟩ := and_e g10'
  obtain ⟨w0, w1, w2, w3, w4, w5, rfl⟩ : ∃ w0 w1 w2 w3 w4 w5 : Value, args = #[w0, w1, w2, w3, w4, w5] := by
    have hs : args.size = 6 := by simpa [Cond.value, given_1] using g2
    obtain ⟨L⟩ := args
    match L, hs with
    | [w0, w1, w2, w3, w4, w5], _ => exact ⟨w0, w1, w2, w3, w4, w5, rfl⟩
  have hw := fun d (hd : d ∈ tables_1) => atoms_spec (ws := Jvm.Cond.code x code maxLocals ret :: tables_1) hat d (List.mem_cons_of_mem _ hd)
  have hfit : Fit s := fun {y c} hc i hi => by
    obtain ⟨ha, rfl⟩ := Array.getElem?_eq_some_iff.mp hc
    have q := List.all_eq_true.mp ((Array.all_eq_true_iff_forall_mem.mp hF) _ (Array.getElem_mem ha)) i (List.mem_range.mpr hi)
    simpa [Array.getElem?_eq_getElem hi] using q
  obtain ⟨i0, ei0⟩ := is_v g4
  obtain rfl : w0 = (.int i0) := Option.some.inj ei0
  obtain ⟨i1, ei1⟩ := is_v g6
  obtain rfl : w1 = (.int i1) := Option.some.inj ei1
  obtain ⟨i2, ei2⟩ := is_v g8
  obtain rfl : w2 = (.int i2) := Option.some.inj ei2
  obtain ⟨i3, ei3⟩ := is_v g10
  obtain rfl : w3 = (.int i3) := Option.some.inj ei3
  obtain ⟨i4, ei4⟩ := is_v g12
  obtain rfl : w4 = (.int i4) := Option.some.inj ei4
  obtain ⟨i5, ei5⟩ := is_v g12'
  obtain rfl : w5 = (.int i5) := Option.some.inj ei5
  obtain ⟨n, o, h1, h2, h3, _, L, rfl, ⟨rfl, N⟩, hq⟩ := rm0 l s _ hw tables_1 i0 i1 i2 i3 i4 i5 s.heap s.heap.size (Nat.le_refl _) p e ha hc hk s m _ below hf ((Spec.applies_iff_loose hf).mp happ).1 ⟨rfl, State.Warmed39.refl s, rfl⟩ trivial
  refine ⟨n, _, h1, h2, h3, hpost _ _ _ _ _ _ ⟨Cond.after_iff.mpr rfl, Cond.after_iff.mpr (eq_i res_at (Term.int_eval (1)) rfl), trivial⟩ ⟨hq.1, hq.2.1, (hq.2.2.sift fun y hy => Or.inr (N y hy)).mono (by decide) (by decide)⟩⟩
theorem main_1_1 : Claimed_1_1 := comes_1 fun _ _ _ _ _ _ h hF => ⟨h.1, hF⟩
theorem main_1_2 : Claimed_1_2 := comes_1 fun _ _ _ _ _ _ h hF => ⟨h.2.1, hF⟩
end Jvm.Pilot.@@N@@
namespace Jvm.Pilot.@@N@@
open Jvm Jvm.ClassFile Sem Op Lib Jvm.Free Jvm.Stand Jvm.Pilot.@@N@@.Jvm.D
/-! MADE BY PROGRAM (witnessworld.py) out of the Statement's table words and the real class files: 9 classes; the members and pool entries that the words name. The judged class is class 1, her method 4. -/
namespace start1
open Jvm.ClassFile
def u (s : String) : CpInfo := .utf8 (stringToUtf16 s)
/-- a pool by its gaps: so many unusable entries, then the entry; so many at the end -/
def gap : Nat → List CpInfo → List CpInfo
  | 0, r => r
  | n + 1, r => .unusable :: gap n r
def poolList (es : List (Nat × CpInfo)) (last : Nat) : List CpInfo := es.foldr (fun e r => gap e.1 (e.2 :: r)) (gap last [])
def pool (es : List (Nat × CpInfo)) (last : Nat) : Array CpInfo := ⟨poolList es last⟩
def fileOf (pool : Array CpInfo) (this : Nat) (attrs : Array Attribute := #[]) (ms : Array MethodInfo := #[]) (fl : Nat := 33) (sup : Nat := 0) (ifs : Array Nat := #[]) (fds : Array FieldInfo := #[]) : ClassFile where
  minorVersion := 0
  majorVersion := 65
  constantPool := pool
  accessFlags := fl
  thisClass := this
  superClass := sup
  interfaces := ifs
  fields := fds
  methods := ms
  attributes := attrs
def plain (name : String) (sup : Option ClassId) : Class where
  name := name
  kind := .ordinary
  loader := none
  accessFlags := 33
  super := sup
  interfaces := #[]
  cf := none
  fields := #[]
  methods := #[]
  instanceTypes := #[]
  staticTypes := #[]
  resolved := #[]
  callSites := []
  init := .initialized
  statics := none
  mirror := none

def pool0 : Array CpInfo := pool [(5, u "<init>"), (0, u "()V"), (1, .class_ 10), (1, u "java/lang/Object")] 113

def k0c0 : Code := { maxStack := 0, maxLocals := 1, code := object_method_1_code, exceptionTable := #[], attributes := #[] }
def k0m0 : Method := { name := "<init>", desc := "()V", sig := { parameters := [], returnType := none }, accessFlags := 1, code := some k0c0 }
/-- java/lang/Object -/
def k0 : Class := { plain "java/lang/Object" none with
  accessFlags := 33
  interfaces := #[]
  cf := some (fileOf pool0 8 #[] #[{ accessFlags := 1, nameIndex := 5, descriptorIndex := 6, attributes := #[] }] 33 0 #[] #[])
  fields := #[]
  methods := #[k0m0]
  instanceTypes := #[]
  staticTypes := #[]
  resolved := Array.replicate 124 none
  statics := none }

def pool1 : Array CpInfo := pool [(2, .class_ 4), (1, u "java/lang/Object"), (0, u "<init>"), (0, u "()V"), (0, .methodref 8 9), (0, .class_ 10), (0, .nameAndType 11 12), (0, u "com/example/exemplum/exemplum/io/TextPositionAdvancePinLaw"), (0, u "pick"), (0, u "(II)I"), (0, .class_ 14), (0, u "com/example/exemplum/exemplum/io/TextPosition"), (0, .methodref 13 16), (0, .nameAndType 5 17), (0, u "(II)V"), (0, .methodref 13 19), (0, .nameAndType 20 21), (0, u "advance"), (0, u "(I)V"), (0, .methodref 8 23), (0, .nameAndType 24 25), (0, u "nextLine"), (0, u "(IIZ)I"), (0, .methodref 8 27), (0, .nameAndType 28 12), (0, u "nextCol"), (0, .methodref 13 30), (0, .nameAndType 31 32), (0, u "line"), (0, u "()I"), (0, .methodref 13 34), (0, .nameAndType 35 32), (0, u "column"), (3, u "law"), (0, u "(IIIIII)Z")] 2

def k1m0 : Method := { name := "<init>", desc := "()V", sig := { parameters := [], returnType := none }, accessFlags := 2, code := none }
def k1c1 : Code := { maxStack := 2, maxLocals := 3, code := method_2_code, exceptionTable := #[], attributes := #[] }
def k1m1 : Method := { name := "pick", desc := "(II)I", sig := { parameters := [.int, .int], returnType := some .int }, accessFlags := 10, code := some k1c1 }
def k1c2 : Code := { maxStack := 2, maxLocals := 3, code := method_3_code, exceptionTable := #[], attributes := #[] }
def k1m2 : Method := { name := "nextLine", desc := "(IIZ)I", sig := { parameters := [.int, .int, .boolean], returnType := some .int }, accessFlags := 10, code := some k1c2 }
def k1c3 : Code := { maxStack := 2, maxLocals := 2, code := method_4_code, exceptionTable := #[], attributes := #[] }
def k1m3 : Method := { name := "nextCol", desc := "(II)I", sig := { parameters := [.int, .int], returnType := some .int }, accessFlags := 10, code := some k1c3 }
def k1c4 : Code := { maxStack := 4, maxLocals := 13, code := code, exceptionTable := #[], attributes := #[] }
def k1m4 : Method := { name := "law", desc := "(IIIIII)Z", sig := { parameters := [.int, .int, .int, .int, .int, .int], returnType := some .boolean }, accessFlags := 9, code := some k1c4 }
/-- com/example/exemplum/exemplum/io/TextPositionAdvancePinLaw -/
def k1 : Class := { plain "com/example/exemplum/exemplum/io/TextPositionAdvancePinLaw" (some 0) with
  accessFlags := 49
  interfaces := #[]
  cf := some (fileOf pool1 8 #[] #[{ accessFlags := 2, nameIndex := 5, descriptorIndex := 6, attributes := #[] }, { accessFlags := 10, nameIndex := 11, descriptorIndex := 12, attributes := #[] }, { accessFlags := 10, nameIndex := 24, descriptorIndex := 25, attributes := #[] }, { accessFlags := 10, nameIndex := 28, descriptorIndex := 12, attributes := #[] }, { accessFlags := 9, nameIndex := 39, descriptorIndex := 40, attributes := #[] }] 49 2 #[] #[])
  fields := #[]
  methods := #[k1m0, k1m1, k1m2, k1m3, k1m4]
  instanceTypes := #[]
  staticTypes := #[]
  resolved := Array.replicate 43 none
  statics := none }

def pool2 : Array CpInfo := pool [(1, .methodref 2 3), (0, .class_ 4), (0, .nameAndType 5 6), (0, u "java/lang/Object"), (0, u "<init>"), (0, u "()V"), (0, .fieldref 8 9), (0, .class_ 10), (0, .nameAndType 11 12), (0, u "com/example/exemplum/exemplum/io/TextPosition"), (0, u "line"), (0, u "I"), (0, .fieldref 8 14), (0, .nameAndType 15 12), (0, u "column"), (0, .fieldref 8 17), (0, .nameAndType 18 19), (0, u "afterCarriageReturn"), (0, u "Z"), (0, u "(II)V"), (2, u "advance"), (0, u "(I)V"), (1, u "()I")] 2

def k2c0 : Code := { maxStack := 2, maxLocals := 3, code := prog_26_method_1_code, exceptionTable := #[], attributes := #[] }
def k2m0 : Method := { name := "<init>", desc := "(II)V", sig := { parameters := [.int, .int], returnType := none }, accessFlags := 0, code := some k2c0 }
def k2c1 : Code := { maxStack := 3, maxLocals := 2, code := prog_26_method_2_code, exceptionTable := #[], attributes := #[] }
def k2m1 : Method := { name := "advance", desc := "(I)V", sig := { parameters := [.int], returnType := none }, accessFlags := 0, code := some k2c1 }
def k2c2 : Code := { maxStack := 1, maxLocals := 1, code := prog_26_method_3_code, exceptionTable := #[], attributes := #[] }
def k2m2 : Method := { name := "line", desc := "()I", sig := { parameters := [], returnType := some .int }, accessFlags := 0, code := some k2c2 }
def k2c3 : Code := { maxStack := 1, maxLocals := 1, code := prog_26_method_4_code, exceptionTable := #[], attributes := #[] }
def k2m3 : Method := { name := "column", desc := "()I", sig := { parameters := [], returnType := some .int }, accessFlags := 0, code := some k2c3 }
/-- com/example/exemplum/exemplum/io/TextPosition -/
def k2 : Class := { plain "com/example/exemplum/exemplum/io/TextPosition" (some 0) with
  accessFlags := 48
  interfaces := #[]
  cf := some (fileOf pool2 8 #[] #[{ accessFlags := 0, nameIndex := 5, descriptorIndex := 20, attributes := #[] }, { accessFlags := 0, nameIndex := 23, descriptorIndex := 24, attributes := #[] }, { accessFlags := 0, nameIndex := 11, descriptorIndex := 26, attributes := #[] }, { accessFlags := 0, nameIndex := 15, descriptorIndex := 26, attributes := #[] }] 48 2 #[] #[{ accessFlags := 2, nameIndex := 11, descriptorIndex := 12, attributes := #[] }, { accessFlags := 2, nameIndex := 15, descriptorIndex := 12, attributes := #[] }, { accessFlags := 2, nameIndex := 18, descriptorIndex := 19, attributes := #[] }])
  fields := #[{ name := "line", type := .int, accessFlags := 2, slot := 0, constantValue := 0 }, { name := "column", type := .int, accessFlags := 2, slot := 1, constantValue := 0 }, { name := "afterCarriageReturn", type := .boolean, accessFlags := 2, slot := 2, constantValue := 0 }]
  methods := #[k2m0, k2m1, k2m2, k2m3]
  instanceTypes := #[.int, .int, .boolean]
  staticTypes := #[]
  resolved := Array.replicate 29 none
  statics := none }

def pool3 : Array CpInfo := pool [(1, u "java/lang/Cloneable"), (0, .class_ 1), (0, u "java/lang/Object"), (0, .class_ 3)] 3

/-- java/lang/Cloneable -/
def k3 : Class := { plain "java/lang/Cloneable" (some 0) with
  accessFlags := 1537
  interfaces := #[]
  cf := some (fileOf pool3 2 #[] #[] 1537 4 #[] #[])
  fields := #[]
  methods := #[]
  instanceTypes := #[]
  staticTypes := #[]
  resolved := Array.replicate 8 none
  statics := none }

def pool4 : Array CpInfo := pool [(1, u "java/io/Serializable"), (0, .class_ 1), (0, u "java/lang/Object"), (0, .class_ 3)] 3

/-- java/io/Serializable -/
def k4 : Class := { plain "java/io/Serializable" (some 0) with
  accessFlags := 1537
  interfaces := #[]
  cf := some (fileOf pool4 2 #[] #[] 1537 4 #[] #[])
  fields := #[]
  methods := #[]
  instanceTypes := #[]
  staticTypes := #[]
  resolved := Array.replicate 8 none
  statics := none }

/-- the primitive byte -/
def k5 : Class := { plain "byte" none with kind := .primitive 'B', accessFlags := 0x411 }
/-- [B -/
def k6 : Class := { plain "[B" (some 0) with kind := .array 5 .byte, interfaces := #[3, 4], accessFlags := 1041 }

/-- the primitive int -/
def k7 : Class := { plain "int" none with kind := .primitive 'I', accessFlags := 0x411 }
/-- [I -/
def k8 : Class := { plain "[I" (some 0) with kind := .array 7 .int, interfaces := #[3, 4], accessFlags := 1041 }

def heap : Heap := #[]
def classes : Array Class := #[k0, k1, k2, k3, k4, k5, k6, k7, k8]
def interned : List (Array UInt16 × Addr) := []
def slotsUsed : Nat := 0
def theMethod : MethodId := ⟨1, 4⟩
def args0 : Array Value := #[.int 1, .int 2, .int 3, .int 4, .int 5, .int 6]
def aboutOver (below : List Frame) : State where
  vm := { classes := classes, interned := interned.toArray }
  heap := heap
  slotsUsed := slotsUsed
  threads := #[{ frames := .invoking theMethod args0 :: below }]
def below0 : List Frame := [.native { method := ⟨0, 0⟩, args := #[] }]
def about1 : State := aboutOver below0
def p0 : Program := .bare "" "" ""
def e0 : Env := launch0.env 0 0 0
theorem w_frames : about1.frames = Frame.invoking theMethod args0 :: below0 := rfl
set_option maxRecDepth 65536 in
theorem w_args : argsFit about1.vm theMethod args0 = true := by decide +kernel
set_option maxRecDepth 65536 in
theorem w_heap : heapFits about1 = true := by decide +kernel
set_option maxRecDepth 65536 in
theorem w_runnable : about1.curStatus? = some .runnable := by decide +kernel
set_option maxRecDepth 65536 in
theorem w_alone : about1.alone = true := by decide +kernel
set_option maxRecDepth 65536 in
theorem w_named : about1.methodNamed? x = some theMethod := by decide +kernel
set_option maxRecDepth 65536 in
theorem w_hears : about1.hears theMethod below0 = true := by decide +kernel
set_option maxRecDepth 65536 in
theorem w_ripe : about1.ripe theMethod args0 below0 = true := by decide +kernel
theorem w_running : about1.status = .running := rfl
set_option maxRecDepth 65536 in
theorem w_room : about1.hasRoom e0.platform room_1 = true :=
  launch0.hasRoom_least _ room_1 (by decide +kernel) (by decide +kernel) (by decide +kernel) (by decide +kernel) (by decide +kernel) (by decide +kernel)
theorem allAtoms_all (ts : List Jvm.Cond) (a : Array Jvm.Value) (st : Jvm.State) : (allAtoms ts).before a st = ts.all (fun c => c.before a st) := by
  induction ts with
  | nil => rfl
  | cons c t ih =>
    show (Jvm.Cond.and c (allAtoms t)).before a st = _
    rw [Jvm.Cond.before_and, ih, List.all_cons]
def words1 : List Jvm.Cond := Jvm.Cond.code x code maxLocals ret :: tables_1
/-- a 'code' word, met by the world's own term for the bytes: nothing is compared byte by byte -/
theorem code_word {y : MethodName} {bytes : ByteArray} {mx : Nat} {rt : Option FieldType} {a : Array Value} {s : State} {m : MethodId} {meth : Method} {c : Code} (h1 : s.methodNamed? y = some m) (h2 : s.vm.method? m = some meth) (h3 : meth.code = some c) (h4 : c.code = bytes)
    (h5 : (c.maxLocals == mx && c.exceptionTable.isEmpty && decide (c.maxStack ≤ mostOperands) && decide (meth.sig.returnType = rt) && !meth.locks && decide (parseMethodDescriptor y.desc = some meth.sig)) = true) : (Jvm.Cond.code y bytes mx rt).before a s = true := by
  simp only [Bool.and_eq_true, beq_iff_eq, Bool.not_eq_true', decide_eq_true_eq] at h5
  obtain ⟨⟨⟨⟨⟨g1, g2⟩, g3⟩, g4⟩, g5⟩, g6⟩ := h5
  simp [Cond.before, Cond.holds, Cond.value, h1, h2, h3, h4, g1, g2, g3, g4, g5, g6]
def isCode : Jvm.Cond → Bool
  | .code _ _ _ _ => true
  | _ => false
theorem all_split {L : List Jvm.Cond} {P : Jvm.Cond → Bool} (h1 : L.all (fun c => isCode c || P c) = true) (h2 : ∀ c ∈ L.filter isCode, P c = true) : L.all P = true := by
  refine List.all_eq_true.mpr fun c hc => ?_
  have h := List.all_eq_true.mp h1 c hc
  rcases Bool.eq_false_or_eq_true (isCode c) with hi | hi
  · exact h2 c (List.mem_filter.mpr ⟨hc, hi⟩)
  · simpa [hi] using h
set_option maxRecDepth 65536 in
theorem w_c0 : (Jvm.Cond.code x code maxLocals ret).before args0 about1 = true := code_word (m := ⟨1, 4⟩) (meth := k1m4) (c := k1c4) (by decide +kernel) rfl rfl rfl (by decide +kernel)
set_option maxRecDepth 65536 in
theorem w_c1 : (Jvm.Cond.code ({ cls := "com/example/exemplum/exemplum/io/TextPositionAdvancePinLaw", name := "pick", desc := "(II)I" } : Jvm.MethodName) method_2_code (3 : Nat) (Option.some Jvm.ClassFile.FieldType.int)).before args0 about1 = true := code_word (m := ⟨1, 1⟩) (meth := k1m1) (c := k1c1) (by decide +kernel) rfl rfl rfl (by decide +kernel)
set_option maxRecDepth 65536 in
theorem w_c2 : (Jvm.Cond.code ({ cls := "com/example/exemplum/exemplum/io/TextPosition", name := "<init>", desc := "(II)V" } : Jvm.MethodName) prog_26_method_1_code (3 : Nat) (Option.none : Option Jvm.ClassFile.FieldType)).before args0 about1 = true := code_word (m := ⟨2, 0⟩) (meth := k2m0) (c := k2c0) (by decide +kernel) rfl rfl rfl (by decide +kernel)
set_option maxRecDepth 65536 in
theorem w_c3 : (Jvm.Cond.code ({ cls := "java/lang/Object", name := "<init>", desc := "()V" } : Jvm.MethodName) object_method_1_code (1 : Nat) (Option.none : Option Jvm.ClassFile.FieldType)).before args0 about1 = true := code_word (m := ⟨0, 0⟩) (meth := k0m0) (c := k0c0) (by decide +kernel) rfl rfl rfl (by decide +kernel)
set_option maxRecDepth 65536 in
theorem w_c4 : (Jvm.Cond.code ({ cls := "com/example/exemplum/exemplum/io/TextPosition", name := "advance", desc := "(I)V" } : Jvm.MethodName) prog_26_method_2_code (2 : Nat) (Option.none : Option Jvm.ClassFile.FieldType)).before args0 about1 = true := code_word (m := ⟨2, 1⟩) (meth := k2m1) (c := k2c1) (by decide +kernel) rfl rfl rfl (by decide +kernel)
set_option maxRecDepth 65536 in
theorem w_c5 : (Jvm.Cond.code ({ cls := "com/example/exemplum/exemplum/io/TextPositionAdvancePinLaw", name := "nextLine", desc := "(IIZ)I" } : Jvm.MethodName) method_3_code (3 : Nat) (Option.some Jvm.ClassFile.FieldType.int)).before args0 about1 = true := code_word (m := ⟨1, 2⟩) (meth := k1m2) (c := k1c2) (by decide +kernel) rfl rfl rfl (by decide +kernel)
set_option maxRecDepth 65536 in
theorem w_c6 : (Jvm.Cond.code ({ cls := "com/example/exemplum/exemplum/io/TextPositionAdvancePinLaw", name := "nextCol", desc := "(II)I" } : Jvm.MethodName) method_4_code (2 : Nat) (Option.some Jvm.ClassFile.FieldType.int)).before args0 about1 = true := code_word (m := ⟨1, 3⟩) (meth := k1m3) (c := k1c3) (by decide +kernel) rfl rfl rfl (by decide +kernel)
set_option maxRecDepth 65536 in
theorem w_c7 : (Jvm.Cond.code ({ cls := "com/example/exemplum/exemplum/io/TextPosition", name := "line", desc := "()I" } : Jvm.MethodName) prog_26_method_3_code (1 : Nat) (Option.some Jvm.ClassFile.FieldType.int)).before args0 about1 = true := code_word (m := ⟨2, 2⟩) (meth := k2m2) (c := k2c2) (by decide +kernel) rfl rfl rfl (by decide +kernel)
set_option maxRecDepth 65536 in
theorem w_c8 : (Jvm.Cond.code ({ cls := "com/example/exemplum/exemplum/io/TextPosition", name := "column", desc := "()I" } : Jvm.MethodName) prog_26_method_4_code (1 : Nat) (Option.some Jvm.ClassFile.FieldType.int)).before args0 about1 = true := code_word (m := ⟨2, 3⟩) (meth := k2m3) (c := k2c3) (by decide +kernel) rfl rfl rfl (by decide +kernel)
def codes1 : List Jvm.Cond := [Jvm.Cond.code x code maxLocals ret, Jvm.Cond.code ({ cls := "com/example/exemplum/exemplum/io/TextPositionAdvancePinLaw", name := "pick", desc := "(II)I" } : Jvm.MethodName) method_2_code (3 : Nat) (Option.some Jvm.ClassFile.FieldType.int), Jvm.Cond.code ({ cls := "com/example/exemplum/exemplum/io/TextPosition", name := "<init>", desc := "(II)V" } : Jvm.MethodName) prog_26_method_1_code (3 : Nat) (Option.none : Option Jvm.ClassFile.FieldType), Jvm.Cond.code ({ cls := "java/lang/Object", name := "<init>", desc := "()V" } : Jvm.MethodName) object_method_1_code (1 : Nat) (Option.none : Option Jvm.ClassFile.FieldType), Jvm.Cond.code ({ cls := "com/example/exemplum/exemplum/io/TextPosition", name := "advance", desc := "(I)V" } : Jvm.MethodName) prog_26_method_2_code (2 : Nat) (Option.none : Option Jvm.ClassFile.FieldType), Jvm.Cond.code ({ cls := "com/example/exemplum/exemplum/io/TextPositionAdvancePinLaw", name := "nextLine", desc := "(IIZ)I" } : Jvm.MethodName) method_3_code (3 : Nat) (Option.some Jvm.ClassFile.FieldType.int), Jvm.Cond.code ({ cls := "com/example/exemplum/exemplum/io/TextPositionAdvancePinLaw", name := "nextCol", desc := "(II)I" } : Jvm.MethodName) method_4_code (2 : Nat) (Option.some Jvm.ClassFile.FieldType.int), Jvm.Cond.code ({ cls := "com/example/exemplum/exemplum/io/TextPosition", name := "line", desc := "()I" } : Jvm.MethodName) prog_26_method_3_code (1 : Nat) (Option.some Jvm.ClassFile.FieldType.int), Jvm.Cond.code ({ cls := "com/example/exemplum/exemplum/io/TextPosition", name := "column", desc := "()I" } : Jvm.MethodName) prog_26_method_4_code (1 : Nat) (Option.some Jvm.ClassFile.FieldType.int)]
set_option maxRecDepth 65536 in
theorem codes_eq : words1.filter isCode = codes1 := rfl
theorem w_codes : ∀ c ∈ words1.filter isCode, c.before args0 about1 = true := by
  rw [codes_eq]
  intro c hc
  simp only [codes1, List.mem_cons, List.not_mem_nil, or_false] at hc
  rcases hc with rfl | rfl | rfl | rfl | rfl | rfl | rfl | rfl | rfl
  · exact w_c0
  · exact w_c1
  · exact w_c2
  · exact w_c3
  · exact w_c4
  · exact w_c5
  · exact w_c6
  · exact w_c7
  · exact w_c8
set_option maxRecDepth 65536 in
theorem w_t1 : (words1.take 24).all (fun c => isCode c || c.before args0 about1) = true := by decide +kernel
set_option maxRecDepth 65536 in
theorem w_t2 : (words1.drop 24).all (fun c => isCode c || c.before args0 about1) = true := by decide +kernel
theorem w_tables : (allAtoms (Jvm.Cond.code x code maxLocals ret :: tables_1)).before args0 about1 = true := by
  rw [allAtoms_all]
  show words1.all (fun c => c.before args0 about1) = true
  refine all_split ?_ w_codes
  rw [← List.take_append_drop 24 words1, List.all_append, w_t1, w_t2]
  rfl
set_option maxRecDepth 65536 in
theorem w_case : (Jvm.Cond.and given_1 narrow_1).before args0 about1 = true := by decide +kernel
theorem w_applies : (headSpec (Jvm.Cond.code x code maxLocals ret :: tables_1) room_1).applies x e0.platform about1 = true :=
  (Spec.applies_iff w_frames).mpr ⟨w_running, w_runnable, w_alone, w_named, w_hears, w_ripe, w_room, w_tables⟩
theorem atStart : AtStart classFile x code maxLocals ret World_1 tables_1 room_1 Calls_1 rest_1 Pre_1 launch0 p0 e0 about1 theMethod args0 below0 :=
  ⟨lists_1, trivial, launch0.admits_env _ _ _, launch0.least_env, fairChoices_fair.cas, fairChoices_fair.clock, w_frames, w_args, w_heap, w_applies, trivial, trivial, w_case⟩
end start1
theorem witness_1 : WitnessClaimed_1 := ⟨start1.p0, start1.e0, start1.about1, start1.theMethod, start1.args0, start1.below0, start1.atStart⟩
end Jvm.Pilot.@@N@@
