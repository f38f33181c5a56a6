import JvmDerived
import JvmDerived.Pilot.@@N@@Statement
import JvmDerived.Pilot.@@N@@Code
set_option linter.unusedVariables false
set_option linter.unusedSimpArgs false
namespace Jvm.Pilot.@@N@@
open Jvm Jvm.ClassFile Sem Op Lib Jvm.Free Jvm.Stand Jvm.LawKit Jvm.RoadKit Bundle Jvm.Pilot.@@N@@.Jvm.D
section OwnKit
variable {p : Program} {l : Launch} {e : Env} {R : Room} {s : State} {m : MethodId} {args : Array Value} {below : List Frame} {meth : Method} {c : Code} {T T' : State} {locs : List Loc} {cells slots ck sk : Nat} {Q : Option Value → Heap → List Loc → Prop} {g g' : JFrame}
/-- from the state T with the top frame g the body ends, and Q says how -/
def Goes (p : Program) (e : Env) (below : List Frame) (s : State) (ck sk : Nat) (Q : Option Value → Heap → List Loc → Prop) (T : State) (g : JFrame) : Prop :=
  ∃ s₂ o, Steps p.tables e below (T.setTop g) s₂ ∧ s₂.status = .running ∧ Ended s₂ below o ∧ ∃ v L, o = .returned v ∧ Q v s₂.heap L ∧ FrameEnd s o s₂ L ck sk
theorem go (h : ∀ t, Steps p.tables e below (T'.setTop g') t → Steps p.tables e below (T.setTop g) t) (k : Goes p e below s ck sk Q T' g') : Goes p e below s ck sk Q T g := by
  obtain ⟨s₂, o, h1, r⟩ := k
  exact ⟨s₂, o, h _ h1, r⟩
theorem goV (h : Steps p.tables e below (T.setTop g) (T'.setTop g')) (k : Goes p e below s ck sk Q T' g') : Goes p e below s ck sk Q T g := go (fun _ kt => h.trans kt) k
theorem goEq (h : g = g') (k : Goes p e below s ck sk Q T g') : Goes p e below s ck sk Q T g := h ▸ k
theorem goVia {T₂ : State} {g₂ : JFrame} (h : Goes p e below s ck sk Q T₂ g₂ → Goes p e below s ck sk Q T g) (k : Goes p e below s ck sk Q T₂ g₂) : Goes p e below s ck sk Q T g := h k
theorem goRetN (X : Stand p l e R s m args below meth c T locs cells slots) (hx : p.tables.exec = Jvm.exec) (hlk : meth.locks = false) {pc : Nat} {Ls : Array Slot} {z : Int32} {t : FieldType} {rest : List Value} (hret : meth.sig.returnType = some t) (ht : t = .boolean ∨ t = .byte ∨ t = .char ∨ t = .short) (hd : decode c.code pc = .ok (.ireturn, 1))
    (hq : Q (some (.int (nar t z))) T.heap locs) (h1 : cells ≤ ck) (h2 : slots ≤ sk) : Goes p e below s ck sk Q T (mkF m pc Ls (.int z :: rest)) := by
  obtain ⟨fs, hr, hrun, hended, hW, hsame⟩ := X.leave (v := some (.int (nar t z))) (fun h => by rw [hret] at h; cases h)
  exact ⟨_, _, retN X hx hret ht hd hr, hrun, hended, _, _, rfl, hq, ⟨_, rfl⟩, hW, hsame.mono h1 h2⟩
theorem goRetI (X : Stand p l e R s m args below meth c T locs cells slots) (hx : p.tables.exec = Jvm.exec) (hlk : meth.locks = false) {pc : Nat} {Ls : Array Slot} {z : Int32} {rest : List Value} (hret : meth.sig.returnType = some .int) (hd : decode c.code pc = .ok (.ireturn, 1))
    (hq : Q (some (.int z)) T.heap locs) (h1 : cells ≤ ck) (h2 : slots ≤ sk) : Goes p e below s ck sk Q T (mkF m pc Ls (.int z :: rest)) := by
  obtain ⟨fs, hr, hrun, hended, hW, hsame⟩ := X.leave (v := some (.int z)) (fun h => by rw [hret] at h; cases h)
  exact ⟨_, _, retOut X hx hret rfl (Or.inl ⟨rfl, Or.inl rfl, z, rfl⟩) hd hr, hrun, hended, _, _, rfl, hq, ⟨_, rfl⟩, hW, hsame.mono h1 h2⟩
theorem goRetJ (X : Stand p l e R s m args below meth c T locs cells slots) (hx : p.tables.exec = Jvm.exec) (hlk : meth.locks = false) {pc : Nat} {Ls : Array Slot} {z : Int64} {rest : List Value} (hret : meth.sig.returnType = some .long) (hd : decode c.code pc = .ok (.lreturn, 1))
    (hq : Q (some (.long z)) T.heap locs) (h1 : cells ≤ ck) (h2 : slots ≤ sk) : Goes p e below s ck sk Q T (mkF m pc Ls (.long z :: rest)) := by
  obtain ⟨fs, hr, hrun, hended, hW, hsame⟩ := X.leave (v := some (.long z)) (fun h => by rw [hret] at h; cases h)
  exact ⟨_, _, retOut X hx hret rfl (Or.inr (Or.inl ⟨rfl, rfl, z, rfl⟩)) hd hr, hrun, hended, _, _, rfl, hq, ⟨_, rfl⟩, hW, hsame.mono h1 h2⟩
theorem goRetA (X : Stand p l e R s m args below meth c T locs cells slots) (hx : p.tables.exec = Jvm.exec) (hlk : meth.locks = false) {pc : Nat} {Ls : Array Slot} {w : Value} {t : FieldType} {rest : List Value} (hret : meth.sig.returnType = some t) (ht : t.isReference = true) (hn : narrow t w = w) (hw : w.isRef = true) (hd : decode c.code pc = .ok (.areturn, 1))
    (hq : Q (some w) T.heap locs) (h1 : cells ≤ ck) (h2 : slots ≤ sk) : Goes p e below s ck sk Q T (mkF m pc Ls (w :: rest)) := by
  obtain ⟨fs, hr, hrun, hended, hW, hsame⟩ := X.leave (v := some w) (fun h => by rw [hret] at h; cases h)
  exact ⟨_, _, retOut X hx hret hn (Or.inr (Or.inr (Or.inr (Or.inr ⟨rfl, ht, hw⟩)))) hd hr, hrun, hended, _, _, rfl, hq, ⟨_, rfl⟩, hW, hsame.mono h1 h2⟩
theorem goRetV (X : Stand p l e R s m args below meth c T locs cells slots) (hx : p.tables.exec = Jvm.exec) (hlk : meth.locks = false) {pc : Nat} {Ls : Array Slot} (hret : meth.sig.returnType = none) (hd : decode c.code pc = .ok (.return_, 1))
    (hq : Q none T.heap locs) (h1 : cells ≤ ck) (h2 : slots ≤ sk) : Goes p e below s ck sk Q T (mkF m pc Ls []) := by
  obtain ⟨fs, hr, hrun, hended, hW, hsame⟩ := X.leave (v := none) (fun _ => rfl)
  exact ⟨_, _, X.returnOut hx hret hd hr, hrun, hended, _, _, rfl, hq, ⟨_, rfl⟩, hW, hsame.mono h1 h2⟩
theorem own_l0 {x y : Int64} (h : x = y) : ifCond.holds .eq (lcmpW x y) = true ∧ ifCond.holds .ne (lcmpW x y) = false := by rw [if0, if0]; exact teq ((lw_eq x y).mpr h)
theorem own_l1 {x y : Int64} (h : ¬ x = y) : ifCond.holds .eq (lcmpW x y) = false ∧ ifCond.holds .ne (lcmpW x y) = true := by rw [if0, if0]; exact feq fun q => h ((lw_eq x y).mp q)
theorem own_l2 {x y : Int64} (h : x < y) : ifCond.holds .lt (lcmpW x y) = true ∧ ifCond.holds .ge (lcmpW x y) = false := by rw [if0, if0]; exact ⟨(tlt ((lw_lt x y).mpr h)).1, (tlt ((lw_lt x y).mpr h)).2.1⟩
theorem own_l3 {x y : Int64} (h : ¬ x < y) : ifCond.holds .lt (lcmpW x y) = false ∧ ifCond.holds .ge (lcmpW x y) = true := by
  rw [if0, if0]
  have q : ¬ lcmpW x y < 0 := fun q => h ((lw_lt x y).mp q)
  exact ⟨(flt q).1, (flt q).2.1⟩
theorem own_l4 {x y : Int64} (h : y < x) : ifCond.holds .gt (lcmpW x y) = true ∧ ifCond.holds .le (lcmpW x y) = false := by rw [if0, if0]; exact ⟨(tlt ((lw_gt x y).mpr h)).2.2.1, (tlt ((lw_gt x y).mpr h)).2.2.2⟩
theorem own_l5 {x y : Int64} (h : ¬ y < x) : ifCond.holds .gt (lcmpW x y) = false ∧ ifCond.holds .le (lcmpW x y) = true := by
  rw [if0, if0]
  have q : ¬ 0 < lcmpW x y := fun q => h ((lw_gt x y).mp q)
  exact ⟨(flt q).2.2.1, (flt q).2.2.2⟩
end OwnKit
def own_max (x y : Int64) : Int64 := if x < y then y else x
def own_z (x : Int64) : Int32 := if x = 0 then 1 else 0
theorem own_mask (x : Int64) : 0 ≤ (x &&& 9223372036854775807).toInt := by
  have h : (x &&& 9223372036854775807).toBitVec.msb = false := by
    show (x.toBitVec &&& 9223372036854775807#64).msb = false
    rw [BitVec.msb_and, show (9223372036854775807#64).msb = false from by decide, Bool.and_false]
  show 0 ≤ (x &&& 9223372036854775807).toBitVec.toInt
  rw [BitVec.toInt_eq_msb_cond, h]; simp
theorem own_l0i : (0 : Int64).toInt = 0 := rfl
theorem own_sub {x y : Int64} (h1 : 0 ≤ x.toInt) (h2 : 0 ≤ y.toInt) : (x - y).toInt = x.toInt - y.toInt := by
  have a := x.toInt_lt; have b := y.toInt_lt
  rw [Int64.toInt_sub]
  apply Int.bmod_eq_of_le <;> omega
theorem own_max0 (x : Int64) : 0 ≤ (own_max 0 x).toInt := by
  unfold own_max; split
  · rename_i h; have h := Int64.lt_iff_toInt_lt.mp h; rw [own_l0i] at h; omega
  · rw [own_l0i]; omega
def own_le (x : Int64) : Int32 := if 0 < x then 0 else 1
def own_ge (t x : Int64) : Int32 := if t < x then 0 else 1
theorem own_1 (x : Int64) : own_z (own_max 0 x) = own_le x := by
  unfold own_z own_max own_le
  by_cases h : 0 < x
  · rw [if_pos h, if_pos h, if_neg]
    intro q; rw [q] at h; exact absurd h (by decide)
  · rw [if_neg h, if_neg h, if_pos rfl]
theorem own_2 (x t : Int64) (ht : 0 ≤ t.toInt) : own_z (own_max 0 (own_max 0 x - t)) = own_ge t (if 0 < x then x else 0) := by
  have e : (if 0 < x then x else 0) = own_max 0 x := rfl
  rw [e]
  have h := own_max0 x
  generalize own_max 0 x = y at h
  rw [own_1]
  unfold own_le own_ge
  have q := own_sub h ht
  have i1 : 0 < y - t ↔ t < y := by rw [Int64.lt_iff_toInt_lt, Int64.lt_iff_toInt_lt, q, own_l0i]; omega
  by_cases r : t < y
  · rw [if_pos r, if_pos (i1.mpr r)]
  · rw [if_neg r, if_neg (fun z => r (i1.mp z))]
theorem own_ne10 : ¬ ((1 : Int32) = 0) := by decide

theorem d3_0 : decode jdk_29_method_66_code 0 = .ok (.lload_n 0, 1) := by decide +kernel
theorem d3_1 : decode jdk_29_method_66_code 1 = .ok (.lload_n 2, 1) := by decide +kernel
theorem d3_2 : decode jdk_29_method_66_code 2 = .ok (.lcmp, 1) := by decide +kernel
theorem d3_3 : decode jdk_29_method_66_code 3 = .ok (.ifCond .lt 7, 3) := by decide +kernel
theorem d3_6 : decode jdk_29_method_66_code 6 = .ok (.lload_n 0, 1) := by decide +kernel
theorem d3_7 : decode jdk_29_method_66_code 7 = .ok (.goto 4, 3) := by decide +kernel
theorem d3_10 : decode jdk_29_method_66_code 10 = .ok (.lload_n 2, 1) := by decide +kernel
theorem d3_11 : decode jdk_29_method_66_code 11 = .ok (.lreturn, 1) := by decide +kernel
theorem ef_3 (m : MethodId) (q1 : Int64) (q2 : Int64) : entryFrame m #[(.long q1), (.long q2)] 4 = mkF m 0 #[.val (.long q1), .second, .val (.long q2), .second] [] := by first | (simp [entryFrame, mkF, argsToLocals, Value.category]; done) | rfl
def Q3 (Z : State) (q1 : Int64) (q2 : Int64) (h0 : Heap) (n0 : Nat) (v : Option Value) (h : Heap) (L : List Loc) : Prop := v = some (.long (own_max q1 q2)) ∧ Fr n0 L ∧ h = h0
set_option maxRecDepth 65536 in
set_option maxHeartbeats 40000000 in
theorem rm3 (l : Launch) (Z : State) (a0 : Array Value) (hw : ∀ d ∈ tables_1, d.before a0 Z = true) (ws : List Jvm.Cond) (q1 : Int64) (q2 : Int64) (h0 : Heap) (n0 : Nat) (Z0 : n0 ≤ h0.size)  :
    MetFree l (⟨"java/lang/Math", "max", "(JJ)J"⟩ : MethodName) (head1 (Jvm.Cond.code (⟨"java/lang/Math", "max", "(JJ)J"⟩ : MethodName) jdk_29_method_66_code 4 (some .long) :: ws) ({ frames := 0, cells := 0, slots := 0, locals := 0 } : Room)) (fun a U => a = #[(.long q1), (.long q2)] ∧ Z.Warmed39 U.vm ∧ U.heap = h0) (fun _ _ _ _ _ => True) (fun _ U o U' => ∃ v L, o = .returned v ∧ Q3 Z q1 q2 h0 n0 v U'.heap L ∧ FrameEnd U o U' L ({ frames := 0, cells := 0, slots := 0, locals := 0 } : Room).cells ({ frames := 0, cells := 0, slots := 0, locals := 0 } : Room).slots) := by
  refine MetFree.of_bodySF (Jvm.Free.JP.mathPlain rfl (by decide +kernel)) hisR ?_
  intro p e s m args below meth c s₁ Bd hml0 hP hK
  obtain ⟨rfl, hZ, hh⟩ := hP
  have hx := Bd.exec
  have hby := Bd.bytes
  have hlk := Bd.notSynchronized
  have hml : c.maxLocals = 4 := hml0
  have hown : s.vm.findClass "java/lang/Math" = some m.cls := findClass_of_methodNamed Bd.named
  have hnm := (name_of_methodNamed Bd.named Bd.method).1
  have X0 : Stand p l e ({ frames := 0, cells := 0, slots := 0, locals := 0 } : Room) s m #[(.long q1), (.long q2)] below meth c s₁ [] 0 0 := Stand.of_body Bd
  have e0 : s₁.heap = h0 := by rw [← hh, Bd.state]; rfl
  have N0 := Fr.nil n0
  show Goes p e below s 0 0 (Q3 Z q1 q2 h0 n0) s₁ (entryFrame m #[(.long q1), (.long q2)] 4)
  refine goEq (ef_3 m q1 q2) ?_
  refine go (T' := s₁) (g' := (mkF m 1 #[.val (.long q1), .second, .val (.long q2), .second] [(.long q1)])) (fun t kt => XS.lloadN X0.here hx rfl (hb hby d3_0) rfl kt) ?_
  refine go (T' := s₁) (g' := (mkF m 2 #[.val (.long q1), .second, .val (.long q2), .second] [(.long q2), (.long q1)])) (fun t kt => XS.lloadN X0.here hx rfl (hb hby d3_1) rfl kt) ?_
  refine go (T' := s₁) (g' := (mkF m 3 #[.val (.long q1), .second, .val (.long q2), .second] [(.int (lcmpW q1 q2))])) (fun t kt => XS.lcmp X0.here hx rfl (hb hby d3_2) rfl kt) ?_
  by_cases hc : q1 < q2
  · refine go (T' := s₁) (g' := (mkF m 10 #[.val (.long q1), .second, .val (.long q2), .second] [])) (fun t kt => XS.ifYes X0.here hx rfl (pc0 := 3) (pc' := 10) rfl (hb hby d3_3) rfl (own_l2 hc).1 (by decide) (by decide) kt) ?_
    refine go (T' := s₁) (g' := (mkF m 11 #[.val (.long q1), .second, .val (.long q2), .second] [(.long q2)])) (fun t kt => XS.lloadN X0.here hx rfl (hb hby d3_10) rfl kt) ?_
    refine goRetJ X0 hx hlk Bd.returns (hb hby d3_11) ?_ (by decide) (by decide)
    rw [e0]
    exact ⟨by rw [own_max, if_pos hc], N0, rfl⟩
  · refine go (T' := s₁) (g' := (mkF m 6 #[.val (.long q1), .second, .val (.long q2), .second] [])) (fun t kt => XS.ifNo X0.here hx rfl (hb hby d3_3) rfl (own_l3 hc).1 kt) ?_
    refine go (T' := s₁) (g' := (mkF m 7 #[.val (.long q1), .second, .val (.long q2), .second] [(.long q1)])) (fun t kt => XS.lloadN X0.here hx rfl (hb hby d3_6) rfl kt) ?_
    refine go (T' := s₁) (g' := (mkF m 11 #[.val (.long q1), .second, .val (.long q2), .second] [(.long q1)])) (fun t kt => XS.goto X0.here hx rfl (pc0 := 7) (pc' := 11) rfl (hb hby d3_7) (by decide) (by decide) kt) ?_
    refine goRetJ X0 hx hlk Bd.returns (hb hby d3_11) ?_ (by decide) (by decide)
    rw [e0]
    exact ⟨by rw [own_max, if_neg hc], N0, rfl⟩
theorem d1_0 : decode prog_110_method_1_code 0 = .ok (.aload_n 0, 1) := by decide +kernel
theorem d1_1 : decode prog_110_method_1_code 1 = .ok (.invokespecial 1, 3) := by decide +kernel
theorem d1_4 : decode prog_110_method_1_code 4 = .ok (.aload_n 0, 1) := by decide +kernel
theorem d1_5 : decode prog_110_method_1_code 5 = .ok (.lconst 0, 1) := by decide +kernel
theorem d1_6 : decode prog_110_method_1_code 6 = .ok (.lload_n 1, 1) := by decide +kernel
theorem d1_7 : decode prog_110_method_1_code 7 = .ok (.invokestatic 7, 3) := by decide +kernel
theorem d1_10 : decode prog_110_method_1_code 10 = .ok (.putfield 13, 3) := by decide +kernel
theorem d1_13 : decode prog_110_method_1_code 13 = .ok (.return_, 1) := by decide +kernel
theorem pd_0 : parseMethodDescriptor "(JJ)J" = some ⟨[.long, .long], some .long⟩ := by decide +kernel
theorem pn_1 : plainName "com/example/offerloom/offerloom/pricing/WorkAllowance" = true := by first | (simp [plainName, overriddenIn]; done) | decide +kernel
theorem ef_1 (m : MethodId) (a1 : Addr) (q1 : Int64) : entryFrame m #[(.ref a1), (.long q1)] 3 = mkF m 0 #[.val (.ref a1), .val (.long q1), .second] [] := by first | (simp [entryFrame, mkF, argsToLocals, Value.category]; done) | rfl
def Q1 (Z : State) (a1 : Addr) (q1 : Int64) (h0 : Heap) (n0 : Nat) (v : Option Value) (h : Heap) (L : List Loc) : Prop := v = none ∧ Fr n0 L ∧ Keep h0 h [a1] ∧ Fld Z h a1 "com/example/offerloom/offerloom/pricing/WorkAllowance" "left" "J" (.long (own_max 0 q1))
set_option maxRecDepth 65536 in
set_option maxHeartbeats 40000000 in
theorem rm1 (l : Launch) (Z : State) (a0 : Array Value) (hw : ∀ d ∈ tables_1, d.before a0 Z = true) (ws : List Jvm.Cond) (a1 : Addr) (q1 : Int64) (h0 : Heap) (n0 : Nat) (Z0 : n0 ≤ h0.size) (g_a1 : n0 ≤ a1) (E1 : Exa Z h0 a1 "com/example/offerloom/offerloom/pricing/WorkAllowance") (F1 : Fld Z h0 a1 "com/example/offerloom/offerloom/pricing/WorkAllowance" "left" "J" (.long (0 : Int64))) :
    MetFree l (⟨"com/example/offerloom/offerloom/pricing/WorkAllowance", "<init>", "(J)V"⟩ : MethodName) (head1 (Jvm.Cond.code (⟨"com/example/offerloom/offerloom/pricing/WorkAllowance", "<init>", "(J)V"⟩ : MethodName) prog_110_method_1_code 3 none :: ws) ({ frames := 1, cells := 0, slots := 0, locals := 16 } : Room)) (fun a U => a = #[(.ref a1), (.long q1)] ∧ Z.Warmed39 U.vm ∧ U.heap = h0) (fun _ _ _ _ _ => True) (fun _ U o U' => ∃ v L, o = .returned v ∧ Q1 Z a1 q1 h0 n0 v U'.heap L ∧ FrameEnd U o U' L ({ frames := 1, cells := 0, slots := 0, locals := 16 } : Room).cells ({ frames := 1, cells := 0, slots := 0, locals := 16 } : Room).slots) := by
  refine MetFree.of_bodySF (plainFor_of_name pn_1) hisR ?_
  intro p e s m args below meth c s₁ Bd hml0 hP hK
  obtain ⟨rfl, hZ, hh⟩ := hP
  have hx := Bd.exec
  have hby := Bd.bytes
  have hlk := Bd.notSynchronized
  have hml : c.maxLocals = 3 := hml0
  have hown : s.vm.findClass "com/example/offerloom/offerloom/pricing/WorkAllowance" = some m.cls := findClass_of_methodNamed Bd.named
  have hnm := (name_of_methodNamed Bd.named Bd.method).1
  have X0 : Stand p l e ({ frames := 1, cells := 0, slots := 0, locals := 16 } : Room) s m #[(.ref a1), (.long q1)] below meth c s₁ [] 0 0 := Stand.of_body Bd
  have e0 : s₁.heap = h0 := by rw [← hh, Bd.state]; rfl
  have N0 := Fr.nil n0
  show Goes p e below s 0 0 (Q1 Z a1 q1 h0 n0) s₁ (entryFrame m #[(.ref a1), (.long q1)] 3)
  refine goEq (ef_1 m a1 q1) ?_
  refine go (T' := s₁) (g' := (mkF m 1 #[.val (.ref a1), .val (.long q1), .second] [(.ref a1)])) (fun t kt => XS.aloadN X0.here hx rfl (hb hby d1_0) rfl rfl kt) ?_
  obtain ⟨T1, X1, e1, st1⟩ := initO X0 hx hZ hown (hw _ (List.mem_of_getElem? (i := 6) rfl)) (hw _ (List.mem_of_getElem? (i := 7) rfl)) (hw _ (List.mem_of_getElem? (i := 8) rfl)) e0 (g := (mkF m 1 #[.val (.ref a1), .val (.long q1), .second] [(.ref a1)])) rfl (by rw [hml]; rfl) rfl (hb hby d1_1) (by decide) (W := 0) (by show 2 * 0 + _ ≤ _; exact Nat.le_of_eq rfl) (by decide)
  refine go (T' := T1) (g' := (mkF m 4 #[.val (.ref a1), .val (.long q1), .second] [])) st1 ?_
  refine go (T' := T1) (g' := (mkF m 5 #[.val (.ref a1), .val (.long q1), .second] [(.ref a1)])) (fun t kt => XS.aloadN X1.here hx rfl (hb hby d1_4) rfl rfl kt) ?_
  refine go (T' := T1) (g' := (mkF m 6 #[.val (.ref a1), .val (.long q1), .second] [(.long (0 : Int64)), (.ref a1)])) (fun t kt => XS.lconst X1.here hx rfl (hb hby d1_5) kt) ?_
  refine go (T' := T1) (g' := (mkF m 7 #[.val (.ref a1), .val (.long q1), .second] [(.long q1), (.long (0 : Int64)), (.ref a1)])) (fun t kt => XS.lloadN X1.here hx rfl (hb hby d1_6) rfl kt) ?_
  obtain ⟨_, _, ⟨T2, L2, k2, n2⟩, -, X2, ⟨Lc2, hQ2, l2, y2, z2⟩, st2⟩ := Jvm.LawKit.callS X1 hx (y := (⟨"java/lang/Math", "max", "(JJ)J"⟩ : MethodName)) hown (mvT hZ (hw _ (List.mem_of_getElem? (i := 9) rfl))) (mvT hZ (hw _ (List.mem_of_getElem? (i := 10) rfl))) (mvT hZ (hw _ (List.mem_of_getElem? (i := 11) rfl))) (mvT hZ (hw _ (List.mem_of_getElem? (i := 12) rfl))) (by decide) (backOf (W := 1) (rm3 l Z a0 hw [] 0 q1 h0 n0 Z0) hZ (hw _ (List.mem_of_getElem? (i := 12) rfl)) (hw _ (List.mem_of_getElem? (i := 11) rfl)) (by decide) (by decide)) (g := (mkF m 7 #[.val (.ref a1), .val (.long q1), .second] [(.long q1), (.long (0 : Int64)), (.ref a1)])) rfl (by rw [hml]; rfl) (argsL := [(.long (0 : Int64)), (.long q1)]) (rest := [(.ref a1)]) (lenOf pd_0 rfl) rfl (by show 2 * 0 + _ ≤ _; exact Nat.le_of_eq rfl) (hb hby d1_7) (fun _ _ => ⟨rfl, e1, (by decide : 0 + 0 ≤ _), (by decide : 0 + 0 ≤ _)⟩)
  dsimp only [Pt.U, Pt.locs, Pt.cells, Pt.slots] at X2 l2 y2 z2 st2 hQ2
  subst l2 y2 z2
  obtain ⟨rfl, N2q, e2⟩ := hQ2
  have N2 := Fr.app N0 N2q
  refine go (T' := T2) (g' := (mkF m 10 #[.val (.ref a1), .val (.long q1), .second] [(.long (own_max 0 q1)), (.ref a1)])) st2 ?_
  obtain ⟨T3, h3, X3, e3, W3, st3⟩ := putF X2 hx hZ hown (host := "") (Or.inl (hw _ (List.mem_of_getElem? (i := 13) rfl))) Via.refl e2 F1 E1 (Or.inl (hw _ (List.mem_of_getElem? (i := 14) rfl))) (hw _ (List.mem_of_getElem? (i := 1) rfl)) (ty := .long) (by decide) rfl rfl (g := (mkF m 10 #[.val (.ref a1), .val (.long q1), .second] [(.long (own_max 0 q1)), (.ref a1)])) rfl rfl (hb hby d1_10)
  have z3 : n0 ≤ h3.size := Nat.le_trans Z0 (Keep.of_wr W3).1
  have fE_a1_3 : Exa Z h3 a1 "com/example/offerloom/offerloom/pricing/WorkAllowance" := E1.wr W3
  have Fw3 : Fld Z h3 a1 "com/example/offerloom/offerloom/pricing/WorkAllowance" "left" "J" (.long (own_max 0 q1)) := F1.same W3
  have K3 : Keep h0 h3 [a1] := (Keep.refl h0 [a1]).wr W3 (Or.inl (List.mem_of_getElem? (i := 0) rfl))
  have N3 := Fr.snoc X3 N2 g_a1
  refine go (T' := T3) (g' := (mkF m 13 #[.val (.ref a1), .val (.long q1), .second] [])) st3 ?_
  refine goRetV X3 hx hlk Bd.returns (hb hby d1_13) ?_ (by decide) (by decide)
  rw [e3]
  exact ⟨rfl, N3, K3, Fw3⟩
theorem d6_0 : decode prog_110_method_5_code 0 = .ok (.aload_n 0, 1) := by decide +kernel
theorem d6_1 : decode prog_110_method_5_code 1 = .ok (.lconst 0, 1) := by decide +kernel
theorem d6_2 : decode prog_110_method_5_code 2 = .ok (.aload_n 0, 1) := by decide +kernel
theorem d6_3 : decode prog_110_method_5_code 3 = .ok (.getfield 13, 3) := by decide +kernel
theorem d6_6 : decode prog_110_method_5_code 6 = .ok (.lload_n 1, 1) := by decide +kernel
theorem d6_7 : decode prog_110_method_5_code 7 = .ok (.lsub, 1) := by decide +kernel
theorem d6_8 : decode prog_110_method_5_code 8 = .ok (.invokestatic 7, 3) := by decide +kernel
theorem d6_11 : decode prog_110_method_5_code 11 = .ok (.putfield 13, 3) := by decide +kernel
theorem d6_14 : decode prog_110_method_5_code 14 = .ok (.return_, 1) := by decide +kernel
theorem ef_6 (m : MethodId) (a1 : Addr) (q1 : Int64) : entryFrame m #[(.ref a1), (.long q1)] 3 = mkF m 0 #[.val (.ref a1), .val (.long q1), .second] [] := by first | (simp [entryFrame, mkF, argsToLocals, Value.category]; done) | rfl
def Q6 (Z : State) (a1 : Addr) (q1 : Int64) (q2 : Int64) (h0 : Heap) (n0 : Nat) (v : Option Value) (h : Heap) (L : List Loc) : Prop := v = none ∧ Fr n0 L ∧ Keep h0 h [a1] ∧ Fld Z h a1 "com/example/offerloom/offerloom/pricing/WorkAllowance" "left" "J" (.long (own_max 0 (q2 - q1)))
set_option maxRecDepth 65536 in
set_option maxHeartbeats 40000000 in
theorem rm6 (l : Launch) (Z : State) (a0 : Array Value) (hw : ∀ d ∈ tables_1, d.before a0 Z = true) (ws : List Jvm.Cond) (a1 : Addr) (q1 : Int64) (q2 : Int64) (h0 : Heap) (n0 : Nat) (Z0 : n0 ≤ h0.size) (g_a1 : n0 ≤ a1) (E1 : Exa Z h0 a1 "com/example/offerloom/offerloom/pricing/WorkAllowance") (F1 : Fld Z h0 a1 "com/example/offerloom/offerloom/pricing/WorkAllowance" "left" "J" (.long q2)) :
    MetFree l (⟨"com/example/offerloom/offerloom/pricing/WorkAllowance", "spend", "(J)V"⟩ : MethodName) (head1 (Jvm.Cond.code (⟨"com/example/offerloom/offerloom/pricing/WorkAllowance", "spend", "(J)V"⟩ : MethodName) prog_110_method_5_code 3 none :: ws) ({ frames := 1, cells := 0, slots := 0, locals := 16 } : Room)) (fun a U => a = #[(.ref a1), (.long q1)] ∧ Z.Warmed39 U.vm ∧ U.heap = h0) (fun _ _ _ _ _ => True) (fun _ U o U' => ∃ v L, o = .returned v ∧ Q6 Z a1 q1 q2 h0 n0 v U'.heap L ∧ FrameEnd U o U' L ({ frames := 1, cells := 0, slots := 0, locals := 16 } : Room).cells ({ frames := 1, cells := 0, slots := 0, locals := 16 } : Room).slots) := by
  refine MetFree.of_bodySF (plainFor_of_name pn_1) hisR ?_
  intro p e s m args below meth c s₁ Bd hml0 hP hK
  obtain ⟨rfl, hZ, hh⟩ := hP
  have hx := Bd.exec
  have hby := Bd.bytes
  have hlk := Bd.notSynchronized
  have hml : c.maxLocals = 3 := hml0
  have hown : s.vm.findClass "com/example/offerloom/offerloom/pricing/WorkAllowance" = some m.cls := findClass_of_methodNamed Bd.named
  have hnm := (name_of_methodNamed Bd.named Bd.method).1
  have X0 : Stand p l e ({ frames := 1, cells := 0, slots := 0, locals := 16 } : Room) s m #[(.ref a1), (.long q1)] below meth c s₁ [] 0 0 := Stand.of_body Bd
  have e0 : s₁.heap = h0 := by rw [← hh, Bd.state]; rfl
  have N0 := Fr.nil n0
  show Goes p e below s 0 0 (Q6 Z a1 q1 q2 h0 n0) s₁ (entryFrame m #[(.ref a1), (.long q1)] 3)
  refine goEq (ef_6 m a1 q1) ?_
  refine go (T' := s₁) (g' := (mkF m 1 #[.val (.ref a1), .val (.long q1), .second] [(.ref a1)])) (fun t kt => XS.aloadN X0.here hx rfl (hb hby d6_0) rfl rfl kt) ?_
  refine go (T' := s₁) (g' := (mkF m 2 #[.val (.ref a1), .val (.long q1), .second] [(.long (0 : Int64)), (.ref a1)])) (fun t kt => XS.lconst X0.here hx rfl (hb hby d6_1) kt) ?_
  refine go (T' := s₁) (g' := (mkF m 3 #[.val (.ref a1), .val (.long q1), .second] [(.ref a1), (.long (0 : Int64)), (.ref a1)])) (fun t kt => XS.aloadN X0.here hx rfl (hb hby d6_2) rfl rfl kt) ?_
  obtain ⟨T4, X4, e4, st4⟩ := getF X0 hx hZ hown (host := "") (Or.inl (hw _ (List.mem_of_getElem? (i := 13) rfl))) Via.refl e0 F1 (g := (mkF m 3 #[.val (.ref a1), .val (.long q1), .second] [(.ref a1), (.long (0 : Int64)), (.ref a1)])) rfl rfl (hb hby d6_3)
  refine go (T' := T4) (g' := (mkF m 6 #[.val (.ref a1), .val (.long q1), .second] [(.long q2), (.long (0 : Int64)), (.ref a1)])) st4 ?_
  refine go (T' := T4) (g' := (mkF m 7 #[.val (.ref a1), .val (.long q1), .second] [(.long q1), (.long q2), (.long (0 : Int64)), (.ref a1)])) (fun t kt => XS.lloadN X4.here hx rfl (hb hby d6_6) rfl kt) ?_
  refine go (T' := T4) (g' := (mkF m 8 #[.val (.ref a1), .val (.long q1), .second] [(.long (q2 - q1)), (.long (0 : Int64)), (.ref a1)])) (fun t kt => XS.lsub X4.here hx rfl (hb hby d6_7) rfl kt) ?_
  obtain ⟨_, _, ⟨T5, L5, k5, n5⟩, -, X5, ⟨Lc5, hQ5, l5, y5, z5⟩, st5⟩ := Jvm.LawKit.callS X4 hx (y := (⟨"java/lang/Math", "max", "(JJ)J"⟩ : MethodName)) hown (mvT hZ (hw _ (List.mem_of_getElem? (i := 9) rfl))) (mvT hZ (hw _ (List.mem_of_getElem? (i := 10) rfl))) (mvT hZ (hw _ (List.mem_of_getElem? (i := 11) rfl))) (mvT hZ (hw _ (List.mem_of_getElem? (i := 12) rfl))) (by decide) (backOf (W := 1) (rm3 l Z a0 hw [] 0 (q2 - q1) h0 n0 Z0) hZ (hw _ (List.mem_of_getElem? (i := 12) rfl)) (hw _ (List.mem_of_getElem? (i := 11) rfl)) (by decide) (by decide)) (g := (mkF m 8 #[.val (.ref a1), .val (.long q1), .second] [(.long (q2 - q1)), (.long (0 : Int64)), (.ref a1)])) rfl (by rw [hml]; rfl) (argsL := [(.long (0 : Int64)), (.long (q2 - q1))]) (rest := [(.ref a1)]) (lenOf pd_0 rfl) rfl (by show 2 * 0 + _ ≤ _; exact Nat.le_of_eq rfl) (hb hby d6_8) (fun _ _ => ⟨rfl, e4, (by decide : 0 + 0 ≤ _), (by decide : 0 + 0 ≤ _)⟩)
  dsimp only [Pt.U, Pt.locs, Pt.cells, Pt.slots] at X5 l5 y5 z5 st5 hQ5
  subst l5 y5 z5
  obtain ⟨rfl, N5q, e5⟩ := hQ5
  have N5 := Fr.app N0 N5q
  refine go (T' := T5) (g' := (mkF m 11 #[.val (.ref a1), .val (.long q1), .second] [(.long (own_max 0 (q2 - q1))), (.ref a1)])) st5 ?_
  obtain ⟨T6, h6, X6, e6, W6, st6⟩ := putF X5 hx hZ hown (host := "") (Or.inl (hw _ (List.mem_of_getElem? (i := 13) rfl))) Via.refl e5 F1 E1 (Or.inl (hw _ (List.mem_of_getElem? (i := 14) rfl))) (hw _ (List.mem_of_getElem? (i := 1) rfl)) (ty := .long) (by decide) rfl rfl (g := (mkF m 11 #[.val (.ref a1), .val (.long q1), .second] [(.long (own_max 0 (q2 - q1))), (.ref a1)])) rfl rfl (hb hby d6_11)
  have z6 : n0 ≤ h6.size := Nat.le_trans Z0 (Keep.of_wr W6).1
  have fE_a1_6 : Exa Z h6 a1 "com/example/offerloom/offerloom/pricing/WorkAllowance" := E1.wr W6
  have Fw6 : Fld Z h6 a1 "com/example/offerloom/offerloom/pricing/WorkAllowance" "left" "J" (.long (own_max 0 (q2 - q1))) := F1.same W6
  have K6 : Keep h0 h6 [a1] := (Keep.refl h0 [a1]).wr W6 (Or.inl (List.mem_of_getElem? (i := 0) rfl))
  have N6 := Fr.snoc X6 N5 g_a1
  refine go (T' := T6) (g' := (mkF m 14 #[.val (.ref a1), .val (.long q1), .second] [])) st6 ?_
  refine goRetV X6 hx hlk Bd.returns (hb hby d6_14) ?_ (by decide) (by decide)
  rw [e6]
  exact ⟨rfl, N6, K6, Fw6⟩
theorem d5_0 : decode prog_110_method_3_code 0 = .ok (.aload_n 0, 1) := by decide +kernel
theorem d5_1 : decode prog_110_method_3_code 1 = .ok (.getfield 13, 3) := by decide +kernel
theorem d5_4 : decode prog_110_method_3_code 4 = .ok (.lreturn, 1) := by decide +kernel
theorem ef_5 (m : MethodId) (a1 : Addr) : entryFrame m #[(.ref a1)] 1 = mkF m 0 #[.val (.ref a1)] [] := by first | (simp [entryFrame, mkF, argsToLocals, Value.category]; done) | rfl
def Q5 (Z : State) (a1 : Addr) (q2 : Int64) (h0 : Heap) (n0 : Nat) (v : Option Value) (h : Heap) (L : List Loc) : Prop := v = some (.long q2) ∧ Fr n0 L ∧ h = h0
set_option maxRecDepth 65536 in
set_option maxHeartbeats 40000000 in
theorem rm5 (l : Launch) (Z : State) (a0 : Array Value) (hw : ∀ d ∈ tables_1, d.before a0 Z = true) (ws : List Jvm.Cond) (a1 : Addr) (q2 : Int64) (h0 : Heap) (n0 : Nat) (Z0 : n0 ≤ h0.size) (F1 : Fld Z h0 a1 "com/example/offerloom/offerloom/pricing/WorkAllowance" "left" "J" (.long q2)) :
    MetFree l (⟨"com/example/offerloom/offerloom/pricing/WorkAllowance", "left", "()J"⟩ : MethodName) (head1 (Jvm.Cond.code (⟨"com/example/offerloom/offerloom/pricing/WorkAllowance", "left", "()J"⟩ : MethodName) prog_110_method_3_code 1 (some .long) :: ws) ({ frames := 0, cells := 0, slots := 0, locals := 0 } : Room)) (fun a U => a = #[(.ref a1)] ∧ Z.Warmed39 U.vm ∧ U.heap = h0) (fun _ _ _ _ _ => True) (fun _ U o U' => ∃ v L, o = .returned v ∧ Q5 Z a1 q2 h0 n0 v U'.heap L ∧ FrameEnd U o U' L ({ frames := 0, cells := 0, slots := 0, locals := 0 } : Room).cells ({ frames := 0, cells := 0, slots := 0, locals := 0 } : Room).slots) := by
  refine MetFree.of_bodySF (plainFor_of_name pn_1) hisR ?_
  intro p e s m args below meth c s₁ Bd hml0 hP hK
  obtain ⟨rfl, hZ, hh⟩ := hP
  have hx := Bd.exec
  have hby := Bd.bytes
  have hlk := Bd.notSynchronized
  have hml : c.maxLocals = 1 := hml0
  have hown : s.vm.findClass "com/example/offerloom/offerloom/pricing/WorkAllowance" = some m.cls := findClass_of_methodNamed Bd.named
  have hnm := (name_of_methodNamed Bd.named Bd.method).1
  have X0 : Stand p l e ({ frames := 0, cells := 0, slots := 0, locals := 0 } : Room) s m #[(.ref a1)] below meth c s₁ [] 0 0 := Stand.of_body Bd
  have e0 : s₁.heap = h0 := by rw [← hh, Bd.state]; rfl
  have N0 := Fr.nil n0
  show Goes p e below s 0 0 (Q5 Z a1 q2 h0 n0) s₁ (entryFrame m #[(.ref a1)] 1)
  refine goEq (ef_5 m a1) ?_
  refine go (T' := s₁) (g' := (mkF m 1 #[.val (.ref a1)] [(.ref a1)])) (fun t kt => XS.aloadN X0.here hx rfl (hb hby d5_0) rfl rfl kt) ?_
  obtain ⟨T7, X7, e7, st7⟩ := getF X0 hx hZ hown (host := "") (Or.inl (hw _ (List.mem_of_getElem? (i := 13) rfl))) Via.refl e0 F1 (g := (mkF m 1 #[.val (.ref a1)] [(.ref a1)])) rfl rfl (hb hby d5_1)
  refine go (T' := T7) (g' := (mkF m 4 #[.val (.ref a1)] [(.long q2)])) st7 ?_
  refine goRetJ X7 hx hlk Bd.returns (hb hby d5_4) ?_ (by decide) (by decide)
  rw [e7]
  exact ⟨rfl, N0, rfl⟩
theorem d4_0 : decode prog_110_method_4_code 0 = .ok (.aload_n 0, 1) := by decide +kernel
theorem d4_1 : decode prog_110_method_4_code 1 = .ok (.getfield 13, 3) := by decide +kernel
theorem d4_4 : decode prog_110_method_4_code 4 = .ok (.lconst 0, 1) := by decide +kernel
theorem d4_5 : decode prog_110_method_4_code 5 = .ok (.lcmp, 1) := by decide +kernel
theorem d4_6 : decode prog_110_method_4_code 6 = .ok (.ifCond .ne 7, 3) := by decide +kernel
theorem d4_9 : decode prog_110_method_4_code 9 = .ok (.iconst 1, 1) := by decide +kernel
theorem d4_10 : decode prog_110_method_4_code 10 = .ok (.goto 4, 3) := by decide +kernel
theorem d4_13 : decode prog_110_method_4_code 13 = .ok (.iconst 0, 1) := by decide +kernel
theorem d4_14 : decode prog_110_method_4_code 14 = .ok (.ireturn, 1) := by decide +kernel
theorem ef_4 (m : MethodId) (a1 : Addr) : entryFrame m #[(.ref a1)] 1 = mkF m 0 #[.val (.ref a1)] [] := by first | (simp [entryFrame, mkF, argsToLocals, Value.category]; done) | rfl
def Q4 (Z : State) (a1 : Addr) (q2 : Int64) (h0 : Heap) (n0 : Nat) (v : Option Value) (h : Heap) (L : List Loc) : Prop := v = some (.int (own_z q2)) ∧ Fr n0 L ∧ h = h0
set_option maxRecDepth 65536 in
set_option maxHeartbeats 40000000 in
theorem rm4 (l : Launch) (Z : State) (a0 : Array Value) (hw : ∀ d ∈ tables_1, d.before a0 Z = true) (ws : List Jvm.Cond) (a1 : Addr) (q2 : Int64) (h0 : Heap) (n0 : Nat) (Z0 : n0 ≤ h0.size) (F1 : Fld Z h0 a1 "com/example/offerloom/offerloom/pricing/WorkAllowance" "left" "J" (.long q2)) :
    MetFree l (⟨"com/example/offerloom/offerloom/pricing/WorkAllowance", "spent", "()Z"⟩ : MethodName) (head1 (Jvm.Cond.code (⟨"com/example/offerloom/offerloom/pricing/WorkAllowance", "spent", "()Z"⟩ : MethodName) prog_110_method_4_code 1 (some .boolean) :: ws) ({ frames := 0, cells := 0, slots := 0, locals := 0 } : Room)) (fun a U => a = #[(.ref a1)] ∧ Z.Warmed39 U.vm ∧ U.heap = h0) (fun _ _ _ _ _ => True) (fun _ U o U' => ∃ v L, o = .returned v ∧ Q4 Z a1 q2 h0 n0 v U'.heap L ∧ FrameEnd U o U' L ({ frames := 0, cells := 0, slots := 0, locals := 0 } : Room).cells ({ frames := 0, cells := 0, slots := 0, locals := 0 } : Room).slots) := by
  refine MetFree.of_bodySF (plainFor_of_name pn_1) hisR ?_
  intro p e s m args below meth c s₁ Bd hml0 hP hK
  obtain ⟨rfl, hZ, hh⟩ := hP
  have hx := Bd.exec
  have hby := Bd.bytes
  have hlk := Bd.notSynchronized
  have hml : c.maxLocals = 1 := hml0
  have hown : s.vm.findClass "com/example/offerloom/offerloom/pricing/WorkAllowance" = some m.cls := findClass_of_methodNamed Bd.named
  have hnm := (name_of_methodNamed Bd.named Bd.method).1
  have X0 : Stand p l e ({ frames := 0, cells := 0, slots := 0, locals := 0 } : Room) s m #[(.ref a1)] below meth c s₁ [] 0 0 := Stand.of_body Bd
  have e0 : s₁.heap = h0 := by rw [← hh, Bd.state]; rfl
  have N0 := Fr.nil n0
  show Goes p e below s 0 0 (Q4 Z a1 q2 h0 n0) s₁ (entryFrame m #[(.ref a1)] 1)
  refine goEq (ef_4 m a1) ?_
  refine go (T' := s₁) (g' := (mkF m 1 #[.val (.ref a1)] [(.ref a1)])) (fun t kt => XS.aloadN X0.here hx rfl (hb hby d4_0) rfl rfl kt) ?_
  obtain ⟨T8, X8, e8, st8⟩ := getF X0 hx hZ hown (host := "") (Or.inl (hw _ (List.mem_of_getElem? (i := 13) rfl))) Via.refl e0 F1 (g := (mkF m 1 #[.val (.ref a1)] [(.ref a1)])) rfl rfl (hb hby d4_1)
  refine go (T' := T8) (g' := (mkF m 4 #[.val (.ref a1)] [(.long q2)])) st8 ?_
  refine go (T' := T8) (g' := (mkF m 5 #[.val (.ref a1)] [(.long (0 : Int64)), (.long q2)])) (fun t kt => XS.lconst X8.here hx rfl (hb hby d4_4) kt) ?_
  refine go (T' := T8) (g' := (mkF m 6 #[.val (.ref a1)] [(.int (lcmpW q2 (0 : Int64)))])) (fun t kt => XS.lcmp X8.here hx rfl (hb hby d4_5) rfl kt) ?_
  by_cases hc : q2 = (0 : Int64)
  · refine go (T' := T8) (g' := (mkF m 9 #[.val (.ref a1)] [])) (fun t kt => XS.ifNo X8.here hx rfl (hb hby d4_6) rfl (own_l0 hc).2 kt) ?_
    refine go (T' := T8) (g' := (mkF m 10 #[.val (.ref a1)] [(.int (1 : Int32))])) (fun t kt => XS.iconst X8.here hx rfl (hb hby d4_9) kt) ?_
    refine go (T' := T8) (g' := (mkF m 14 #[.val (.ref a1)] [(.int (1 : Int32))])) (fun t kt => XS.goto X8.here hx rfl (pc0 := 10) (pc' := 14) rfl (hb hby d4_10) (by decide) (by decide) kt) ?_
    refine goRetN X8 hx hlk (t := .boolean) Bd.returns (by simp) (hb hby d4_14) ?_ (by decide) (by decide)
    rw [e8]
    exact ⟨by rw [own_z, if_pos hc]; rfl, N0, rfl⟩
  · refine go (T' := T8) (g' := (mkF m 13 #[.val (.ref a1)] [])) (fun t kt => XS.ifYes X8.here hx rfl (pc0 := 6) (pc' := 13) rfl (hb hby d4_6) rfl (own_l1 hc).2 (by decide) (by decide) kt) ?_
    refine go (T' := T8) (g' := (mkF m 14 #[.val (.ref a1)] [(.int (0 : Int32))])) (fun t kt => XS.iconst X8.here hx rfl (hb hby d4_13) kt) ?_
    refine goRetN X8 hx hlk (t := .boolean) Bd.returns (by simp) (hb hby d4_14) ?_ (by decide) (by decide)
    rw [e8]
    exact ⟨by rw [own_z, if_neg hc]; rfl, N0, rfl⟩
theorem pd_1 : parseMethodDescriptor "(J)V" = some ⟨[.long], none⟩ := by decide +kernel
theorem pd_2 : parseMethodDescriptor "()Z" = some ⟨[], some .boolean⟩ := by decide +kernel
theorem pd_3 : parseMethodDescriptor "()J" = some ⟨[], some .long⟩ := by decide +kernel
theorem pn_0 : plainName "com/example/offerloom/offerloom/pricing/WorkAllowanceSpentPinLaw" = true := by first | (simp [plainName, overriddenIn]; done) | decide +kernel
theorem ef_0 (m : MethodId) (q1 : Int64) (q2 : Int64) (p1 : Int32) : entryFrame m #[(.long q1), (.long q2), (.int p1)] maxLocals = mkF m 0 #[.val (.long q1), .second, .val (.long q2), .second, .val (.int p1), .unset, .unset, .unset, .unset, .unset, .unset] [] := by first | (simp [entryFrame, mkF, argsToLocals, Value.category, maxLocals]; done) | rfl
def Q0 (Z : State) (q1 : Int64) (q2 : Int64) (p1 : Int32) (h0 : Heap) (n0 : Nat) (v : Option Value) (h : Heap) (L : List Loc) : Prop := v = some (.int 1) ∧ Fr n0 L
set_option maxRecDepth 65536 in
set_option maxHeartbeats 40000000 in
theorem rm0 (l : Launch) (Z : State) (a0 : Array Value) (hw : ∀ d ∈ tables_1, d.before a0 Z = true) (ws : List Jvm.Cond) (q1 : Int64) (q2 : Int64) (p1 : Int32) (h0 : Heap) (n0 : Nat) (Z0 : n0 ≤ h0.size)  :
    MetFree l x (head1 (Jvm.Cond.code x code maxLocals ret :: ws) room_1) (fun a U => a = #[(.long q1), (.long q2), (.int p1)] ∧ Z.Warmed39 U.vm ∧ U.heap = h0) (fun _ _ _ _ _ => True) (fun _ U o U' => ∃ v L, o = .returned v ∧ Q0 Z q1 q2 p1 h0 n0 v U'.heap L ∧ FrameEnd U o U' L 1 1) := by
  refine MetFree.of_bodySF (plainFor_of_name pn_0) hisR ?_
  intro p e s m args below meth c s₁ Bd hml0 hP hK
  obtain ⟨rfl, hZ, hh⟩ := hP
  have hx := Bd.exec
  have hby := Bd.bytes
  have hlk := Bd.notSynchronized
  have hml : c.maxLocals = 11 := hml0
  have hown : s.vm.findClass "com/example/offerloom/offerloom/pricing/WorkAllowanceSpentPinLaw" = some m.cls := findClass_of_methodNamed Bd.named
  have hnm := (name_of_methodNamed Bd.named Bd.method).1
  have X0 : Stand p l e room_1 s m #[(.long q1), (.long q2), (.int p1)] below meth c s₁ [] 0 0 := Stand.of_body Bd
  have e0 : s₁.heap = h0 := by rw [← hh, Bd.state]; rfl
  have N0 := Fr.nil n0
  show Goes p e below s 1 1 (Q0 Z q1 q2 p1 h0 n0) s₁ (entryFrame m #[(.long q1), (.long q2), (.int p1)] maxLocals)
  refine goEq (ef_0 m q1 q2 p1) ?_
  obtain ⟨T9, h9, X9, e9, E9, A9, D9, -, st9⟩ := newO X0 hx hZ hown (hw _ (List.mem_of_getElem? (i := 0) rfl)) (hw _ (List.mem_of_getElem? (i := 1) rfl)) (hw _ (List.mem_of_getElem? (i := 2) rfl)) e0 (g := (mkF m 0 #[.val (.long q1), .second, .val (.long q2), .second, .val (.int p1), .unset, .unset, .unset, .unset, .unset, .unset] [])) rfl (hb hby at_0) (by decide) (by decide)
  obtain ⟨bq, g9⟩ : ∃ z, z = h0.size := ⟨_, rfl⟩
  rw [← g9] at A9 D9 st9
  have g_bq : n0 ≤ bq := Nat.le_trans Z0 (Nat.le_of_eq g9.symm)
  have z9 : n0 ≤ h9.size := Nat.le_trans Z0 E9.1
  have F_left_bq : Fld Z h9 bq "com/example/offerloom/offerloom/pricing/WorkAllowance" "left" "J" (.long (0 : Int64)) := D9 (Or.inl (hw _ (List.mem_of_getElem? (i := 14) rfl))) (ty := .long) (by decide)
  refine go (T' := T9) (g' := (mkF m 3 #[.val (.long q1), .second, .val (.long q2), .second, .val (.int p1), .unset, .unset, .unset, .unset, .unset, .unset] [(.ref bq)])) st9 ?_
  refine go (T' := T9) (g' := (mkF m 4 #[.val (.long q1), .second, .val (.long q2), .second, .val (.int p1), .unset, .unset, .unset, .unset, .unset, .unset] [(.ref bq), (.ref bq)])) (fun t kt => XS.dup X9.here hx rfl (hb hby at_3) rfl rfl kt) ?_
  refine go (T' := T9) (g' := (mkF m 5 #[.val (.long q1), .second, .val (.long q2), .second, .val (.int p1), .unset, .unset, .unset, .unset, .unset, .unset] [(.long q1), (.ref bq), (.ref bq)])) (fun t kt => XS.lloadN X9.here hx rfl (hb hby at_4) rfl kt) ?_
  obtain ⟨_, _, ⟨T10, L10, k10, n10⟩, -, X10, ⟨Lc10, hQ10, l10, y10, z10⟩, st10⟩ := X9.specialBack hx (y := (⟨"com/example/offerloom/offerloom/pricing/WorkAllowance", "<init>", "(J)V"⟩ : MethodName)) rfl hown (mvT hZ (hw _ (List.mem_of_getElem? (i := 3) rfl))) (mvT hZ (hw _ (List.mem_of_getElem? (i := 4) rfl))) (mvT hZ (hw _ (List.mem_of_getElem? (i := 5) rfl))) (by decide) (backOf (W := 1) (rm1 l Z a0 hw [] bq q1 h9 n0 z9 g_bq A9 F_left_bq) hZ (hw _ (List.mem_of_getElem? (i := 5) rfl)) (hw _ (List.mem_of_getElem? (i := 2) rfl)) (by decide) (by decide)) (g := (mkF m 5 #[.val (.long q1), .second, .val (.long q2), .second, .val (.int p1), .unset, .unset, .unset, .unset, .unset, .unset] [(.long q1), (.ref bq), (.ref bq)])) rfl (by rw [hml]; rfl) (Steps.refl _) (a := bq) (argsL := [(.long q1)]) (rest := [(.ref bq)]) (lenOf pd_1 rfl) rfl (by show 2 * 0 + _ ≤ _; exact Nat.le_of_eq rfl) (hb hby at_5) (fun _ _ => ⟨rfl, e9, (by decide : 1 + 0 ≤ _), (by decide : 1 + 0 ≤ _)⟩)
  dsimp only [Pt.U, Pt.locs, Pt.cells, Pt.slots] at X10 l10 y10 z10 st10 hQ10
  subst l10 y10 z10
  obtain ⟨rfl, N10q, K10, F10a⟩ := hQ10
  have N10 := Fr.app N0 N10q
  refine goV (T' := T10) (g' := (mkF m 8 #[.val (.long q1), .second, .val (.long q2), .second, .val (.int p1), .unset, .unset, .unset, .unset, .unset, .unset] [(.ref bq)])) st10 ?_
  have z10 : n0 ≤ T10.heap.size := Nat.le_trans z9 K10.1
  have fE_bq_10 : Exa Z T10.heap bq "com/example/offerloom/offerloom/pricing/WorkAllowance" := A9.keep K10
  refine go (T' := T10) (g' := (mkF m 10 #[.val (.long q1), .second, .val (.long q2), .second, .val (.int p1), .val (.ref bq), .unset, .unset, .unset, .unset, .unset] [])) (fun t kt => XS.astore X10.here hx rfl (hb hby at_8) rfl rfl (l' := #[.val (.long q1), .second, .val (.long q2), .second, .val (.int p1), .val (.ref bq), .unset, .unset, .unset, .unset, .unset]) rfl kt) ?_
  refine go (T' := T10) (g' := (mkF m 12 #[.val (.long q1), .second, .val (.long q2), .second, .val (.int p1), .val (.ref bq), .unset, .unset, .unset, .unset, .unset] [(.ref bq)])) (fun t kt => XS.aload X10.here hx rfl (hb hby at_10) rfl rfl kt) ?_
  obtain ⟨cq11, kq11, q11a, q11b, q11c⟩ := isOf hZ rfl fE_bq_10
  obtain ⟨_, _, ⟨T11, L11, k11, n11⟩, -, X11, ⟨Lc11, hQ11, l11, y11, z11⟩, st11⟩ := X10.virtualBack hx (y := (⟨"com/example/offerloom/offerloom/pricing/WorkAllowance", "spent", "()Z"⟩ : MethodName)) (z := (⟨"com/example/offerloom/offerloom/pricing/WorkAllowance", "spent", "()Z"⟩ : MethodName)) hown (mvT hZ (hw _ (List.mem_of_getElem? (i := 15) rfl))) (mvT hZ (hw _ (List.mem_of_getElem? (i := 16) rfl))) (notFace_of_selects (args := #[]) (mvT hZ (hw _ (List.mem_of_getElem? (i := 18) rfl)))) (mvT hZ (hw _ (List.mem_of_getElem? (i := 18) rfl))) (mvT hZ (hw _ (List.mem_of_getElem? (i := 17) rfl))) (by decide) (backOf (W := 0) (rm4 l Z a0 hw [] bq (own_max 0 q1) T10.heap n0 z10 F10a) hZ (hw _ (List.mem_of_getElem? (i := 19) rfl)) (hw _ (List.mem_of_getElem? (i := 2) rfl)) (by decide) (by decide)) q11a q11c (g := (mkF m 12 #[.val (.long q1), .second, .val (.long q2), .second, .val (.int p1), .val (.ref bq), .unset, .unset, .unset, .unset, .unset] [(.ref bq)])) rfl (by rw [hml]; rfl) (Steps.refl _) (argsL := []) (rest := []) (lenOf pd_2 rfl) rfl (by show 2 * 0 + _ ≤ _; exact Nat.le_of_eq rfl) (hb hby at_12) (fun _ _ => ⟨rfl, rfl, (by decide : 1 + 0 ≤ _), (by decide : 1 + 0 ≤ _)⟩)
  dsimp only [Pt.U, Pt.locs, Pt.cells, Pt.slots] at X11 l11 y11 z11 st11 hQ11
  subst l11 y11 z11
  obtain ⟨rfl, N11q, e11⟩ := hQ11
  have N11 := Fr.app N10 N11q
  refine goV (T' := T11) (g' := (mkF m 15 #[.val (.long q1), .second, .val (.long q2), .second, .val (.int p1), .val (.ref bq), .unset, .unset, .unset, .unset, .unset] [(.int (own_z (own_max 0 q1)))])) st11 ?_
  refine goVia (T₂ := T11) (g₂ := (mkF m 26 #[.val (.long q1), .second, .val (.long q2), .second, .val (.int p1), .val (.ref bq), .unset, .unset, .unset, .unset, .unset] [(.int (own_le q1)), (.int (own_z (own_max 0 q1)))])) (fun kV => ?_) ?_
  · refine go (T' := T11) (g' := (mkF m 16 #[.val (.long q1), .second, .val (.long q2), .second, .val (.int p1), .val (.ref bq), .unset, .unset, .unset, .unset, .unset] [(.long q1), (.int (own_z (own_max 0 q1)))])) (fun t kt => XS.lloadN X11.here hx rfl (hb hby at_15) rfl kt) ?_
    refine go (T' := T11) (g' := (mkF m 17 #[.val (.long q1), .second, .val (.long q2), .second, .val (.int p1), .val (.ref bq), .unset, .unset, .unset, .unset, .unset] [(.long (0 : Int64)), (.long q1), (.int (own_z (own_max 0 q1)))])) (fun t kt => XS.lconst X11.here hx rfl (hb hby at_16) kt) ?_
    refine go (T' := T11) (g' := (mkF m 18 #[.val (.long q1), .second, .val (.long q2), .second, .val (.int p1), .val (.ref bq), .unset, .unset, .unset, .unset, .unset] [(.int (lcmpW q1 (0 : Int64))), (.int (own_z (own_max 0 q1)))])) (fun t kt => XS.lcmp X11.here hx rfl (hb hby at_17) rfl kt) ?_
    by_cases hd : (0 : Int64) < q1
    · refine go (T' := T11) (g' := (mkF m 25 #[.val (.long q1), .second, .val (.long q2), .second, .val (.int p1), .val (.ref bq), .unset, .unset, .unset, .unset, .unset] [(.int (own_z (own_max 0 q1)))])) (fun t kt => XS.ifYes X11.here hx rfl (pc0 := 18) (pc' := 25) rfl (hb hby at_18) rfl (own_l4 hd).1 (by decide) (by decide) kt) ?_
      refine go (T' := T11) (g' := (mkF m 26 #[.val (.long q1), .second, .val (.long q2), .second, .val (.int p1), .val (.ref bq), .unset, .unset, .unset, .unset, .unset] [(.int (0 : Int32)), (.int (own_z (own_max 0 q1)))])) (fun t kt => XS.iconst X11.here hx rfl (hb hby at_25) kt) ?_
      exact goEq (by rw [own_le, if_pos hd]) kV
    · refine go (T' := T11) (g' := (mkF m 21 #[.val (.long q1), .second, .val (.long q2), .second, .val (.int p1), .val (.ref bq), .unset, .unset, .unset, .unset, .unset] [(.int (own_z (own_max 0 q1)))])) (fun t kt => XS.ifNo X11.here hx rfl (hb hby at_18) rfl (own_l5 hd).1 kt) ?_
      refine go (T' := T11) (g' := (mkF m 22 #[.val (.long q1), .second, .val (.long q2), .second, .val (.int p1), .val (.ref bq), .unset, .unset, .unset, .unset, .unset] [(.int (1 : Int32)), (.int (own_z (own_max 0 q1)))])) (fun t kt => XS.iconst X11.here hx rfl (hb hby at_21) kt) ?_
      refine go (T' := T11) (g' := (mkF m 26 #[.val (.long q1), .second, .val (.long q2), .second, .val (.int p1), .val (.ref bq), .unset, .unset, .unset, .unset, .unset] [(.int (1 : Int32)), (.int (own_z (own_max 0 q1)))])) (fun t kt => XS.goto X11.here hx rfl (pc0 := 22) (pc' := 26) rfl (hb hby at_22) (by decide) (by decide) kt) ?_
      exact goEq (by rw [own_le, if_neg hd]) kV
  · refine go (T' := T11) (g' := (mkF m 29 #[.val (.long q1), .second, .val (.long q2), .second, .val (.int p1), .val (.ref bq), .unset, .unset, .unset, .unset, .unset] [])) (fun t kt => XS.icmpNo X11.here hx rfl (hb hby at_26) rfl (teq (own_1 q1)).2 kt) ?_
    refine go (T' := T11) (g' := (mkF m 30 #[.val (.long q1), .second, .val (.long q2), .second, .val (.int p1), .val (.ref bq), .unset, .unset, .unset, .unset, .unset] [(.int (1 : Int32))])) (fun t kt => XS.iconst X11.here hx rfl (hb hby at_29) kt) ?_
    refine go (T' := T11) (g' := (mkF m 34 #[.val (.long q1), .second, .val (.long q2), .second, .val (.int p1), .val (.ref bq), .unset, .unset, .unset, .unset, .unset] [(.int (1 : Int32))])) (fun t kt => XS.goto X11.here hx rfl (pc0 := 30) (pc' := 34) rfl (hb hby at_30) (by decide) (by decide) kt) ?_
    refine go (T' := T11) (g' := (mkF m 36 #[.val (.long q1), .second, .val (.long q2), .second, .val (.int p1), .val (.ref bq), .val (.int (1 : Int32)), .unset, .unset, .unset, .unset] [])) (fun t kt => XS.istore X11.here hx rfl (hb hby at_34) rfl (l' := #[.val (.long q1), .second, .val (.long q2), .second, .val (.int p1), .val (.ref bq), .val (.int (1 : Int32)), .unset, .unset, .unset, .unset]) rfl kt) ?_
    refine go (T' := T11) (g' := (mkF m 38 #[.val (.long q1), .second, .val (.long q2), .second, .val (.int p1), .val (.ref bq), .val (.int (1 : Int32)), .unset, .unset, .unset, .unset] [(.int p1)])) (fun t kt => XS.iload X11.here hx rfl (hb hby at_36) rfl kt) ?_
    refine go (T' := T11) (g' := (mkF m 39 #[.val (.long q1), .second, .val (.long q2), .second, .val (.int p1), .val (.ref bq), .val (.int (1 : Int32)), .unset, .unset, .unset, .unset] [(.int (1 : Int32)), (.int p1)])) (fun t kt => XS.iconst X11.here hx rfl (hb hby at_38) kt) ?_
    refine go (T' := T11) (g' := (mkF m 40 #[.val (.long q1), .second, .val (.long q2), .second, .val (.int p1), .val (.ref bq), .val (.int (1 : Int32)), .unset, .unset, .unset, .unset] [(.int (p1 &&& (1 : Int32)))])) (fun t kt => XS.iand X11.here hx rfl (hb hby at_39) rfl kt) ?_
    by_cases hf : (p1 &&& (1 : Int32)) = (0 : Int32)
    · refine go (T' := T11) (g' := (mkF m 103 #[.val (.long q1), .second, .val (.long q2), .second, .val (.int p1), .val (.ref bq), .val (.int (1 : Int32)), .unset, .unset, .unset, .unset] [])) (fun t kt => XS.ifYes X11.here hx rfl (pc0 := 40) (pc' := 103) rfl (hb hby at_40) rfl ((if0 _ _).trans (teq hf).1) (by decide) (by decide) kt) ?_
      refine go (T' := T11) (g' := (mkF m 105 #[.val (.long q1), .second, .val (.long q2), .second, .val (.int p1), .val (.ref bq), .val (.int (1 : Int32)), .unset, .unset, .unset, .unset] [(.int (1 : Int32))])) (fun t kt => XS.iload X11.here hx rfl (hb hby at_103) rfl kt) ?_
      refine go (T' := T11) (g' := (mkF m 108 #[.val (.long q1), .second, .val (.long q2), .second, .val (.int p1), .val (.ref bq), .val (.int (1 : Int32)), .unset, .unset, .unset, .unset] [])) (fun t kt => XS.ifNo X11.here hx rfl (hb hby at_105) rfl ((if0 _ _).trans (feq own_ne10).1) kt) ?_
      refine go (T' := T11) (g' := (mkF m 110 #[.val (.long q1), .second, .val (.long q2), .second, .val (.int p1), .val (.ref bq), .val (.int (1 : Int32)), .unset, .unset, .unset, .unset] [(.ref bq)])) (fun t kt => XS.aload X11.here hx rfl (hb hby at_108) rfl rfl kt) ?_
      obtain ⟨cq12, kq12, q12a, q12b, q12c⟩ := isOf hZ e11 fE_bq_10
      obtain ⟨_, _, ⟨T12, L12, k12, n12⟩, -, X12, ⟨Lc12, hQ12, l12, y12, z12⟩, st12⟩ := X11.virtualBack hx (y := (⟨"com/example/offerloom/offerloom/pricing/WorkAllowance", "spent", "()Z"⟩ : MethodName)) (z := (⟨"com/example/offerloom/offerloom/pricing/WorkAllowance", "spent", "()Z"⟩ : MethodName)) hown (mvT hZ (hw _ (List.mem_of_getElem? (i := 15) rfl))) (mvT hZ (hw _ (List.mem_of_getElem? (i := 16) rfl))) (notFace_of_selects (args := #[]) (mvT hZ (hw _ (List.mem_of_getElem? (i := 18) rfl)))) (mvT hZ (hw _ (List.mem_of_getElem? (i := 18) rfl))) (mvT hZ (hw _ (List.mem_of_getElem? (i := 17) rfl))) (by decide) (backOf (W := 0) (rm4 l Z a0 hw [] bq (own_max 0 q1) T10.heap n0 z10 F10a) hZ (hw _ (List.mem_of_getElem? (i := 19) rfl)) (hw _ (List.mem_of_getElem? (i := 2) rfl)) (by decide) (by decide)) q12a q12c (g := (mkF m 110 #[.val (.long q1), .second, .val (.long q2), .second, .val (.int p1), .val (.ref bq), .val (.int (1 : Int32)), .unset, .unset, .unset, .unset] [(.ref bq)])) rfl (by rw [hml]; rfl) (Steps.refl _) (argsL := []) (rest := []) (lenOf pd_2 rfl) rfl (by show 2 * 0 + _ ≤ _; exact Nat.le_of_eq rfl) (hb hby at_110) (fun _ _ => ⟨rfl, e11, (by decide : 1 + 0 ≤ _), (by decide : 1 + 0 ≤ _)⟩)
      dsimp only [Pt.U, Pt.locs, Pt.cells, Pt.slots] at X12 l12 y12 z12 st12 hQ12
      subst l12 y12 z12
      obtain ⟨rfl, N12q, e12⟩ := hQ12
      have N12 := Fr.app N11 N12q
      refine goV (T' := T12) (g' := (mkF m 113 #[.val (.long q1), .second, .val (.long q2), .second, .val (.int p1), .val (.ref bq), .val (.int (1 : Int32)), .unset, .unset, .unset, .unset] [(.int (own_z (own_max 0 q1)))])) st12 ?_
      refine go (T' := T12) (g' := (mkF m 115 #[.val (.long q1), .second, .val (.long q2), .second, .val (.int p1), .val (.ref bq), .val (.int (1 : Int32)), .unset, .unset, .unset, .unset] [(.ref bq), (.int (own_z (own_max 0 q1)))])) (fun t kt => XS.aload X12.here hx rfl (hb hby at_113) rfl rfl kt) ?_
      obtain ⟨cq13, kq13, q13a, q13b, q13c⟩ := isOf hZ e12 fE_bq_10
      obtain ⟨_, _, ⟨T13, L13, k13, n13⟩, -, X13, ⟨Lc13, hQ13, l13, y13, z13⟩, st13⟩ := X12.virtualBack hx (y := (⟨"com/example/offerloom/offerloom/pricing/WorkAllowance", "left", "()J"⟩ : MethodName)) (z := (⟨"com/example/offerloom/offerloom/pricing/WorkAllowance", "left", "()J"⟩ : MethodName)) hown (mvT hZ (hw _ (List.mem_of_getElem? (i := 20) rfl))) (mvT hZ (hw _ (List.mem_of_getElem? (i := 21) rfl))) (notFace_of_selects (args := #[]) (mvT hZ (hw _ (List.mem_of_getElem? (i := 23) rfl)))) (mvT hZ (hw _ (List.mem_of_getElem? (i := 23) rfl))) (mvT hZ (hw _ (List.mem_of_getElem? (i := 22) rfl))) (by decide) (backOf (W := 1) (rm5 l Z a0 hw [] bq (own_max 0 q1) T10.heap n0 z10 F10a) hZ (hw _ (List.mem_of_getElem? (i := 24) rfl)) (hw _ (List.mem_of_getElem? (i := 2) rfl)) (by decide) (by decide)) q13a q13c (g := (mkF m 115 #[.val (.long q1), .second, .val (.long q2), .second, .val (.int p1), .val (.ref bq), .val (.int (1 : Int32)), .unset, .unset, .unset, .unset] [(.ref bq), (.int (own_z (own_max 0 q1)))])) rfl (by rw [hml]; rfl) (Steps.refl _) (argsL := []) (rest := [(.int (own_z (own_max 0 q1)))]) (lenOf pd_3 rfl) rfl (by show 2 * 0 + _ ≤ _; exact Nat.le_of_eq rfl) (hb hby at_115) (fun _ _ => ⟨rfl, e12, (by decide : 1 + 0 ≤ _), (by decide : 1 + 0 ≤ _)⟩)
      dsimp only [Pt.U, Pt.locs, Pt.cells, Pt.slots] at X13 l13 y13 z13 st13 hQ13
      subst l13 y13 z13
      obtain ⟨rfl, N13q, e13⟩ := hQ13
      have N13 := Fr.app N12 N13q
      refine goV (T' := T13) (g' := (mkF m 118 #[.val (.long q1), .second, .val (.long q2), .second, .val (.int p1), .val (.ref bq), .val (.int (1 : Int32)), .unset, .unset, .unset, .unset] [(.long (own_max 0 q1)), (.int (own_z (own_max 0 q1)))])) st13 ?_
      refine goVia (T₂ := T13) (g₂ := (mkF m 128 #[.val (.long q1), .second, .val (.long q2), .second, .val (.int p1), .val (.ref bq), .val (.int (1 : Int32)), .unset, .unset, .unset, .unset] [(.int (own_z (own_max 0 q1))), (.int (own_z (own_max 0 q1)))])) (fun kV => ?_) ?_
      · refine go (T' := T13) (g' := (mkF m 119 #[.val (.long q1), .second, .val (.long q2), .second, .val (.int p1), .val (.ref bq), .val (.int (1 : Int32)), .unset, .unset, .unset, .unset] [(.long (0 : Int64)), (.long (own_max 0 q1)), (.int (own_z (own_max 0 q1)))])) (fun t kt => XS.lconst X13.here hx rfl (hb hby at_118) kt) ?_
        refine go (T' := T13) (g' := (mkF m 120 #[.val (.long q1), .second, .val (.long q2), .second, .val (.int p1), .val (.ref bq), .val (.int (1 : Int32)), .unset, .unset, .unset, .unset] [(.int (lcmpW (own_max 0 q1) (0 : Int64))), (.int (own_z (own_max 0 q1)))])) (fun t kt => XS.lcmp X13.here hx rfl (hb hby at_119) rfl kt) ?_
        by_cases he : (own_max 0 q1) = (0 : Int64)
        · refine go (T' := T13) (g' := (mkF m 123 #[.val (.long q1), .second, .val (.long q2), .second, .val (.int p1), .val (.ref bq), .val (.int (1 : Int32)), .unset, .unset, .unset, .unset] [(.int (own_z (own_max 0 q1)))])) (fun t kt => XS.ifNo X13.here hx rfl (hb hby at_120) rfl (own_l0 he).2 kt) ?_
          refine go (T' := T13) (g' := (mkF m 124 #[.val (.long q1), .second, .val (.long q2), .second, .val (.int p1), .val (.ref bq), .val (.int (1 : Int32)), .unset, .unset, .unset, .unset] [(.int (1 : Int32)), (.int (own_z (own_max 0 q1)))])) (fun t kt => XS.iconst X13.here hx rfl (hb hby at_123) kt) ?_
          refine go (T' := T13) (g' := (mkF m 128 #[.val (.long q1), .second, .val (.long q2), .second, .val (.int p1), .val (.ref bq), .val (.int (1 : Int32)), .unset, .unset, .unset, .unset] [(.int (1 : Int32)), (.int (own_z (own_max 0 q1)))])) (fun t kt => XS.goto X13.here hx rfl (pc0 := 124) (pc' := 128) rfl (hb hby at_124) (by decide) (by decide) kt) ?_
          exact goEq (by rw [own_z, if_pos he]) kV
        · refine go (T' := T13) (g' := (mkF m 127 #[.val (.long q1), .second, .val (.long q2), .second, .val (.int p1), .val (.ref bq), .val (.int (1 : Int32)), .unset, .unset, .unset, .unset] [(.int (own_z (own_max 0 q1)))])) (fun t kt => XS.ifYes X13.here hx rfl (pc0 := 120) (pc' := 127) rfl (hb hby at_120) rfl (own_l1 he).2 (by decide) (by decide) kt) ?_
          refine go (T' := T13) (g' := (mkF m 128 #[.val (.long q1), .second, .val (.long q2), .second, .val (.int p1), .val (.ref bq), .val (.int (1 : Int32)), .unset, .unset, .unset, .unset] [(.int (0 : Int32)), (.int (own_z (own_max 0 q1)))])) (fun t kt => XS.iconst X13.here hx rfl (hb hby at_127) kt) ?_
          exact goEq (by rw [own_z, if_neg he]) kV
      · refine go (T' := T13) (g' := (mkF m 131 #[.val (.long q1), .second, .val (.long q2), .second, .val (.int p1), .val (.ref bq), .val (.int (1 : Int32)), .unset, .unset, .unset, .unset] [])) (fun t kt => XS.icmpNo X13.here hx rfl (hb hby at_128) rfl (teq (rfl : own_z (own_max 0 q1) = _)).2 kt) ?_
        refine go (T' := T13) (g' := (mkF m 132 #[.val (.long q1), .second, .val (.long q2), .second, .val (.int p1), .val (.ref bq), .val (.int (1 : Int32)), .unset, .unset, .unset, .unset] [(.int (1 : Int32))])) (fun t kt => XS.iconst X13.here hx rfl (hb hby at_131) kt) ?_
        refine go (T' := T13) (g' := (mkF m 136 #[.val (.long q1), .second, .val (.long q2), .second, .val (.int p1), .val (.ref bq), .val (.int (1 : Int32)), .unset, .unset, .unset, .unset] [(.int (1 : Int32))])) (fun t kt => XS.goto X13.here hx rfl (pc0 := 132) (pc' := 136) rfl (hb hby at_132) (by decide) (by decide) kt) ?_
        refine goRetN X13 hx hlk (t := .boolean) Bd.returns (by simp) (hb hby at_136) ?_ (by decide) (by decide)
        rw [e13]
        exact ⟨rfl, N13⟩
    · refine go (T' := T11) (g' := (mkF m 43 #[.val (.long q1), .second, .val (.long q2), .second, .val (.int p1), .val (.ref bq), .val (.int (1 : Int32)), .unset, .unset, .unset, .unset] [])) (fun t kt => XS.ifNo X11.here hx rfl (hb hby at_40) rfl ((if0 _ _).trans (feq hf).1) kt) ?_
      refine go (T' := T11) (g' := (mkF m 44 #[.val (.long q1), .second, .val (.long q2), .second, .val (.int p1), .val (.ref bq), .val (.int (1 : Int32)), .unset, .unset, .unset, .unset] [(.long q2)])) (fun t kt => XS.lloadN X11.here hx rfl (hb hby at_43) rfl kt) ?_
      refine go (T' := T11) (g' := (mkF m 47 #[.val (.long q1), .second, .val (.long q2), .second, .val (.int p1), .val (.ref bq), .val (.int (1 : Int32)), .unset, .unset, .unset, .unset] [(.long (9223372036854775807 : Int64)), (.long q2)])) (fun t kt => X11.ldc2Long hx hown (mvT hZ (hw _ (List.mem_of_getElem? (i := 25) rfl))) (g := (mkF m 44 #[.val (.long q1), .second, .val (.long q2), .second, .val (.int p1), .val (.ref bq), .val (.int (1 : Int32)), .unset, .unset, .unset, .unset] [(.long q2)])) rfl (hb hby at_44) _ kt) ?_
      refine go (T' := T11) (g' := (mkF m 48 #[.val (.long q1), .second, .val (.long q2), .second, .val (.int p1), .val (.ref bq), .val (.int (1 : Int32)), .unset, .unset, .unset, .unset] [(.long (q2 &&& (9223372036854775807 : Int64)))])) (fun t kt => XS.land X11.here hx rfl (hb hby at_47) rfl kt) ?_
      refine go (T' := T11) (g' := (mkF m 50 #[.val (.long q1), .second, .val (.long q2), .second, .val (.int p1), .val (.ref bq), .val (.int (1 : Int32)), .val (.long (q2 &&& (9223372036854775807 : Int64))), .second, .unset, .unset] [])) (fun t kt => XS.lstore X11.here hx rfl (hb hby at_48) rfl (l' := #[.val (.long q1), .second, .val (.long q2), .second, .val (.int p1), .val (.ref bq), .val (.int (1 : Int32)), .val (.long (q2 &&& (9223372036854775807 : Int64))), .second, .unset, .unset]) rfl kt) ?_
      refine goVia (T₂ := T11) (g₂ := (mkF m 61 #[.val (.long q1), .second, .val (.long q2), .second, .val (.int p1), .val (.ref bq), .val (.int (1 : Int32)), .val (.long (q2 &&& (9223372036854775807 : Int64))), .second, .unset, .unset] [(.long (if (0 : Int64) < q1 then q1 else 0))])) (fun kV => ?_) ?_
      · refine go (T' := T11) (g' := (mkF m 51 #[.val (.long q1), .second, .val (.long q2), .second, .val (.int p1), .val (.ref bq), .val (.int (1 : Int32)), .val (.long (q2 &&& (9223372036854775807 : Int64))), .second, .unset, .unset] [(.long q1)])) (fun t kt => XS.lloadN X11.here hx rfl (hb hby at_50) rfl kt) ?_
        refine go (T' := T11) (g' := (mkF m 52 #[.val (.long q1), .second, .val (.long q2), .second, .val (.int p1), .val (.ref bq), .val (.int (1 : Int32)), .val (.long (q2 &&& (9223372036854775807 : Int64))), .second, .unset, .unset] [(.long (0 : Int64)), (.long q1)])) (fun t kt => XS.lconst X11.here hx rfl (hb hby at_51) kt) ?_
        refine go (T' := T11) (g' := (mkF m 53 #[.val (.long q1), .second, .val (.long q2), .second, .val (.int p1), .val (.ref bq), .val (.int (1 : Int32)), .val (.long (q2 &&& (9223372036854775807 : Int64))), .second, .unset, .unset] [(.int (lcmpW q1 (0 : Int64)))])) (fun t kt => XS.lcmp X11.here hx rfl (hb hby at_52) rfl kt) ?_
        by_cases hg : (0 : Int64) < q1
        · refine go (T' := T11) (g' := (mkF m 56 #[.val (.long q1), .second, .val (.long q2), .second, .val (.int p1), .val (.ref bq), .val (.int (1 : Int32)), .val (.long (q2 &&& (9223372036854775807 : Int64))), .second, .unset, .unset] [])) (fun t kt => XS.ifNo X11.here hx rfl (hb hby at_53) rfl (own_l4 hg).2 kt) ?_
          refine go (T' := T11) (g' := (mkF m 57 #[.val (.long q1), .second, .val (.long q2), .second, .val (.int p1), .val (.ref bq), .val (.int (1 : Int32)), .val (.long (q2 &&& (9223372036854775807 : Int64))), .second, .unset, .unset] [(.long q1)])) (fun t kt => XS.lloadN X11.here hx rfl (hb hby at_56) rfl kt) ?_
          refine go (T' := T11) (g' := (mkF m 61 #[.val (.long q1), .second, .val (.long q2), .second, .val (.int p1), .val (.ref bq), .val (.int (1 : Int32)), .val (.long (q2 &&& (9223372036854775807 : Int64))), .second, .unset, .unset] [(.long q1)])) (fun t kt => XS.goto X11.here hx rfl (pc0 := 57) (pc' := 61) rfl (hb hby at_57) (by decide) (by decide) kt) ?_
          exact goEq (by rw [if_pos hg]) kV
        · refine go (T' := T11) (g' := (mkF m 60 #[.val (.long q1), .second, .val (.long q2), .second, .val (.int p1), .val (.ref bq), .val (.int (1 : Int32)), .val (.long (q2 &&& (9223372036854775807 : Int64))), .second, .unset, .unset] [])) (fun t kt => XS.ifYes X11.here hx rfl (pc0 := 53) (pc' := 60) rfl (hb hby at_53) rfl (own_l5 hg).2 (by decide) (by decide) kt) ?_
          refine go (T' := T11) (g' := (mkF m 61 #[.val (.long q1), .second, .val (.long q2), .second, .val (.int p1), .val (.ref bq), .val (.int (1 : Int32)), .val (.long (q2 &&& (9223372036854775807 : Int64))), .second, .unset, .unset] [(.long (0 : Int64))])) (fun t kt => XS.lconst X11.here hx rfl (hb hby at_60) kt) ?_
          exact goEq (by rw [if_neg hg]) kV
      · refine go (T' := T11) (g' := (mkF m 63 #[.val (.long q1), .second, .val (.long q2), .second, .val (.int p1), .val (.ref bq), .val (.int (1 : Int32)), .val (.long (q2 &&& (9223372036854775807 : Int64))), .second, .val (.long (if (0 : Int64) < q1 then q1 else 0)), .second] [])) (fun t kt => XS.lstore X11.here hx rfl (hb hby at_61) rfl (l' := #[.val (.long q1), .second, .val (.long q2), .second, .val (.int p1), .val (.ref bq), .val (.int (1 : Int32)), .val (.long (q2 &&& (9223372036854775807 : Int64))), .second, .val (.long (if (0 : Int64) < q1 then q1 else 0)), .second]) rfl kt) ?_
        refine go (T' := T11) (g' := (mkF m 65 #[.val (.long q1), .second, .val (.long q2), .second, .val (.int p1), .val (.ref bq), .val (.int (1 : Int32)), .val (.long (q2 &&& (9223372036854775807 : Int64))), .second, .val (.long (if (0 : Int64) < q1 then q1 else 0)), .second] [(.ref bq)])) (fun t kt => XS.aload X11.here hx rfl (hb hby at_63) rfl rfl kt) ?_
        refine go (T' := T11) (g' := (mkF m 67 #[.val (.long q1), .second, .val (.long q2), .second, .val (.int p1), .val (.ref bq), .val (.int (1 : Int32)), .val (.long (q2 &&& (9223372036854775807 : Int64))), .second, .val (.long (if (0 : Int64) < q1 then q1 else 0)), .second] [(.long (q2 &&& (9223372036854775807 : Int64))), (.ref bq)])) (fun t kt => XS.lload X11.here hx rfl (hb hby at_65) rfl kt) ?_
        obtain ⟨cq14, kq14, q14a, q14b, q14c⟩ := isOf hZ e11 fE_bq_10
        obtain ⟨_, _, ⟨T14, L14, k14, n14⟩, -, X14, ⟨Lc14, hQ14, l14, y14, z14⟩, st14⟩ := X11.virtualBack hx (y := (⟨"com/example/offerloom/offerloom/pricing/WorkAllowance", "spend", "(J)V"⟩ : MethodName)) (z := (⟨"com/example/offerloom/offerloom/pricing/WorkAllowance", "spend", "(J)V"⟩ : MethodName)) hown (mvT hZ (hw _ (List.mem_of_getElem? (i := 26) rfl))) (mvT hZ (hw _ (List.mem_of_getElem? (i := 27) rfl))) (notFace_of_selects (args := #[]) (mvT hZ (hw _ (List.mem_of_getElem? (i := 29) rfl)))) (mvT hZ (hw _ (List.mem_of_getElem? (i := 29) rfl))) (mvT hZ (hw _ (List.mem_of_getElem? (i := 28) rfl))) (by decide) (backOf (W := 0) (rm6 l Z a0 hw [] bq (q2 &&& (9223372036854775807 : Int64)) (own_max 0 q1) T10.heap n0 z10 g_bq fE_bq_10 F10a) hZ (hw _ (List.mem_of_getElem? (i := 30) rfl)) (hw _ (List.mem_of_getElem? (i := 2) rfl)) (by decide) (by decide)) q14a q14c (g := (mkF m 67 #[.val (.long q1), .second, .val (.long q2), .second, .val (.int p1), .val (.ref bq), .val (.int (1 : Int32)), .val (.long (q2 &&& (9223372036854775807 : Int64))), .second, .val (.long (if (0 : Int64) < q1 then q1 else 0)), .second] [(.long (q2 &&& (9223372036854775807 : Int64))), (.ref bq)])) rfl (by rw [hml]; rfl) (Steps.refl _) (argsL := [(.long (q2 &&& (9223372036854775807 : Int64)))]) (rest := []) (lenOf pd_1 rfl) rfl (by show 2 * 0 + _ ≤ _; exact Nat.le_of_eq rfl) (hb hby at_67) (fun _ _ => ⟨rfl, e11, (by decide : 1 + 0 ≤ _), (by decide : 1 + 0 ≤ _)⟩)
        dsimp only [Pt.U, Pt.locs, Pt.cells, Pt.slots] at X14 l14 y14 z14 st14 hQ14
        subst l14 y14 z14
        obtain ⟨rfl, N14q, K14, F14a⟩ := hQ14
        have N14 := Fr.app N11 N14q
        refine goV (T' := T14) (g' := (mkF m 70 #[.val (.long q1), .second, .val (.long q2), .second, .val (.int p1), .val (.ref bq), .val (.int (1 : Int32)), .val (.long (q2 &&& (9223372036854775807 : Int64))), .second, .val (.long (if (0 : Int64) < q1 then q1 else 0)), .second] [])) st14 ?_
        have z14 : n0 ≤ T14.heap.size := Nat.le_trans z10 K14.1
        have fE_bq_14 : Exa Z T14.heap bq "com/example/offerloom/offerloom/pricing/WorkAllowance" := fE_bq_10.keep K14
        refine go (T' := T14) (g' := (mkF m 72 #[.val (.long q1), .second, .val (.long q2), .second, .val (.int p1), .val (.ref bq), .val (.int (1 : Int32)), .val (.long (q2 &&& (9223372036854775807 : Int64))), .second, .val (.long (if (0 : Int64) < q1 then q1 else 0)), .second] [(.int (1 : Int32))])) (fun t kt => XS.iload X14.here hx rfl (hb hby at_70) rfl kt) ?_
        refine go (T' := T14) (g' := (mkF m 75 #[.val (.long q1), .second, .val (.long q2), .second, .val (.int p1), .val (.ref bq), .val (.int (1 : Int32)), .val (.long (q2 &&& (9223372036854775807 : Int64))), .second, .val (.long (if (0 : Int64) < q1 then q1 else 0)), .second] [])) (fun t kt => XS.ifNo X14.here hx rfl (hb hby at_72) rfl ((if0 _ _).trans (feq own_ne10).1) kt) ?_
        refine go (T' := T14) (g' := (mkF m 77 #[.val (.long q1), .second, .val (.long q2), .second, .val (.int p1), .val (.ref bq), .val (.int (1 : Int32)), .val (.long (q2 &&& (9223372036854775807 : Int64))), .second, .val (.long (if (0 : Int64) < q1 then q1 else 0)), .second] [(.ref bq)])) (fun t kt => XS.aload X14.here hx rfl (hb hby at_75) rfl rfl kt) ?_
        obtain ⟨cq15, kq15, q15a, q15b, q15c⟩ := isOf hZ rfl fE_bq_14
        obtain ⟨_, _, ⟨T15, L15, k15, n15⟩, -, X15, ⟨Lc15, hQ15, l15, y15, z15⟩, st15⟩ := X14.virtualBack hx (y := (⟨"com/example/offerloom/offerloom/pricing/WorkAllowance", "spent", "()Z"⟩ : MethodName)) (z := (⟨"com/example/offerloom/offerloom/pricing/WorkAllowance", "spent", "()Z"⟩ : MethodName)) hown (mvT hZ (hw _ (List.mem_of_getElem? (i := 15) rfl))) (mvT hZ (hw _ (List.mem_of_getElem? (i := 16) rfl))) (notFace_of_selects (args := #[]) (mvT hZ (hw _ (List.mem_of_getElem? (i := 18) rfl)))) (mvT hZ (hw _ (List.mem_of_getElem? (i := 18) rfl))) (mvT hZ (hw _ (List.mem_of_getElem? (i := 17) rfl))) (by decide) (backOf (W := 0) (rm4 l Z a0 hw [] bq (own_max 0 (own_max 0 q1 - (q2 &&& (9223372036854775807 : Int64)))) T14.heap n0 z14 F14a) hZ (hw _ (List.mem_of_getElem? (i := 19) rfl)) (hw _ (List.mem_of_getElem? (i := 2) rfl)) (by decide) (by decide)) q15a q15c (g := (mkF m 77 #[.val (.long q1), .second, .val (.long q2), .second, .val (.int p1), .val (.ref bq), .val (.int (1 : Int32)), .val (.long (q2 &&& (9223372036854775807 : Int64))), .second, .val (.long (if (0 : Int64) < q1 then q1 else 0)), .second] [(.ref bq)])) rfl (by rw [hml]; rfl) (Steps.refl _) (argsL := []) (rest := []) (lenOf pd_2 rfl) rfl (by show 2 * 0 + _ ≤ _; exact Nat.le_of_eq rfl) (hb hby at_77) (fun _ _ => ⟨rfl, rfl, (by decide : 1 + 0 ≤ _), (by decide : 1 + 0 ≤ _)⟩)
        dsimp only [Pt.U, Pt.locs, Pt.cells, Pt.slots] at X15 l15 y15 z15 st15 hQ15
        subst l15 y15 z15
        obtain ⟨rfl, N15q, e15⟩ := hQ15
        have N15 := Fr.app N14 N15q
        refine goV (T' := T15) (g' := (mkF m 80 #[.val (.long q1), .second, .val (.long q2), .second, .val (.int p1), .val (.ref bq), .val (.int (1 : Int32)), .val (.long (q2 &&& (9223372036854775807 : Int64))), .second, .val (.long (if (0 : Int64) < q1 then q1 else 0)), .second] [(.int (own_z (own_max 0 (own_max 0 q1 - (q2 &&& (9223372036854775807 : Int64))))))])) st15 ?_
        refine goVia (T₂ := T15) (g₂ := (mkF m 93 #[.val (.long q1), .second, .val (.long q2), .second, .val (.int p1), .val (.ref bq), .val (.int (1 : Int32)), .val (.long (q2 &&& (9223372036854775807 : Int64))), .second, .val (.long (if (0 : Int64) < q1 then q1 else 0)), .second] [(.int (own_ge (q2 &&& (9223372036854775807 : Int64)) (if (0 : Int64) < q1 then q1 else 0))), (.int (own_z (own_max 0 (own_max 0 q1 - (q2 &&& (9223372036854775807 : Int64))))))])) (fun kV => ?_) ?_
        · refine go (T' := T15) (g' := (mkF m 82 #[.val (.long q1), .second, .val (.long q2), .second, .val (.int p1), .val (.ref bq), .val (.int (1 : Int32)), .val (.long (q2 &&& (9223372036854775807 : Int64))), .second, .val (.long (if (0 : Int64) < q1 then q1 else 0)), .second] [(.long (q2 &&& (9223372036854775807 : Int64))), (.int (own_z (own_max 0 (own_max 0 q1 - (q2 &&& (9223372036854775807 : Int64))))))])) (fun t kt => XS.lload X15.here hx rfl (hb hby at_80) rfl kt) ?_
          refine go (T' := T15) (g' := (mkF m 84 #[.val (.long q1), .second, .val (.long q2), .second, .val (.int p1), .val (.ref bq), .val (.int (1 : Int32)), .val (.long (q2 &&& (9223372036854775807 : Int64))), .second, .val (.long (if (0 : Int64) < q1 then q1 else 0)), .second] [(.long (if (0 : Int64) < q1 then q1 else 0)), (.long (q2 &&& (9223372036854775807 : Int64))), (.int (own_z (own_max 0 (own_max 0 q1 - (q2 &&& (9223372036854775807 : Int64))))))])) (fun t kt => XS.lload X15.here hx rfl (hb hby at_82) rfl kt) ?_
          refine go (T' := T15) (g' := (mkF m 85 #[.val (.long q1), .second, .val (.long q2), .second, .val (.int p1), .val (.ref bq), .val (.int (1 : Int32)), .val (.long (q2 &&& (9223372036854775807 : Int64))), .second, .val (.long (if (0 : Int64) < q1 then q1 else 0)), .second] [(.int (lcmpW (q2 &&& (9223372036854775807 : Int64)) (if (0 : Int64) < q1 then q1 else 0))), (.int (own_z (own_max 0 (own_max 0 q1 - (q2 &&& (9223372036854775807 : Int64))))))])) (fun t kt => XS.lcmp X15.here hx rfl (hb hby at_84) rfl kt) ?_
          by_cases hh2 : (q2 &&& (9223372036854775807 : Int64)) < (if (0 : Int64) < q1 then q1 else 0)
          · refine go (T' := T15) (g' := (mkF m 92 #[.val (.long q1), .second, .val (.long q2), .second, .val (.int p1), .val (.ref bq), .val (.int (1 : Int32)), .val (.long (q2 &&& (9223372036854775807 : Int64))), .second, .val (.long (if (0 : Int64) < q1 then q1 else 0)), .second] [(.int (own_z (own_max 0 (own_max 0 q1 - (q2 &&& (9223372036854775807 : Int64))))))])) (fun t kt => XS.ifYes X15.here hx rfl (pc0 := 85) (pc' := 92) rfl (hb hby at_85) rfl (own_l2 hh2).1 (by decide) (by decide) kt) ?_
            refine go (T' := T15) (g' := (mkF m 93 #[.val (.long q1), .second, .val (.long q2), .second, .val (.int p1), .val (.ref bq), .val (.int (1 : Int32)), .val (.long (q2 &&& (9223372036854775807 : Int64))), .second, .val (.long (if (0 : Int64) < q1 then q1 else 0)), .second] [(.int (0 : Int32)), (.int (own_z (own_max 0 (own_max 0 q1 - (q2 &&& (9223372036854775807 : Int64))))))])) (fun t kt => XS.iconst X15.here hx rfl (hb hby at_92) kt) ?_
            exact goEq (by rw [own_ge, if_pos hh2]) kV
          · refine go (T' := T15) (g' := (mkF m 88 #[.val (.long q1), .second, .val (.long q2), .second, .val (.int p1), .val (.ref bq), .val (.int (1 : Int32)), .val (.long (q2 &&& (9223372036854775807 : Int64))), .second, .val (.long (if (0 : Int64) < q1 then q1 else 0)), .second] [(.int (own_z (own_max 0 (own_max 0 q1 - (q2 &&& (9223372036854775807 : Int64))))))])) (fun t kt => XS.ifNo X15.here hx rfl (hb hby at_85) rfl (own_l3 hh2).1 kt) ?_
            refine go (T' := T15) (g' := (mkF m 89 #[.val (.long q1), .second, .val (.long q2), .second, .val (.int p1), .val (.ref bq), .val (.int (1 : Int32)), .val (.long (q2 &&& (9223372036854775807 : Int64))), .second, .val (.long (if (0 : Int64) < q1 then q1 else 0)), .second] [(.int (1 : Int32)), (.int (own_z (own_max 0 (own_max 0 q1 - (q2 &&& (9223372036854775807 : Int64))))))])) (fun t kt => XS.iconst X15.here hx rfl (hb hby at_88) kt) ?_
            refine go (T' := T15) (g' := (mkF m 93 #[.val (.long q1), .second, .val (.long q2), .second, .val (.int p1), .val (.ref bq), .val (.int (1 : Int32)), .val (.long (q2 &&& (9223372036854775807 : Int64))), .second, .val (.long (if (0 : Int64) < q1 then q1 else 0)), .second] [(.int (1 : Int32)), (.int (own_z (own_max 0 (own_max 0 q1 - (q2 &&& (9223372036854775807 : Int64))))))])) (fun t kt => XS.goto X15.here hx rfl (pc0 := 89) (pc' := 93) rfl (hb hby at_89) (by decide) (by decide) kt) ?_
            exact goEq (by rw [own_ge, if_neg hh2]) kV
        · refine go (T' := T15) (g' := (mkF m 96 #[.val (.long q1), .second, .val (.long q2), .second, .val (.int p1), .val (.ref bq), .val (.int (1 : Int32)), .val (.long (q2 &&& (9223372036854775807 : Int64))), .second, .val (.long (if (0 : Int64) < q1 then q1 else 0)), .second] [])) (fun t kt => XS.icmpNo X15.here hx rfl (hb hby at_93) rfl (teq (own_2 q1 _ (own_mask q2))).2 kt) ?_
          refine go (T' := T15) (g' := (mkF m 97 #[.val (.long q1), .second, .val (.long q2), .second, .val (.int p1), .val (.ref bq), .val (.int (1 : Int32)), .val (.long (q2 &&& (9223372036854775807 : Int64))), .second, .val (.long (if (0 : Int64) < q1 then q1 else 0)), .second] [(.int (1 : Int32))])) (fun t kt => XS.iconst X15.here hx rfl (hb hby at_96) kt) ?_
          refine go (T' := T15) (g' := (mkF m 101 #[.val (.long q1), .second, .val (.long q2), .second, .val (.int p1), .val (.ref bq), .val (.int (1 : Int32)), .val (.long (q2 &&& (9223372036854775807 : Int64))), .second, .val (.long (if (0 : Int64) < q1 then q1 else 0)), .second] [(.int (1 : Int32))])) (fun t kt => XS.goto X15.here hx rfl (pc0 := 97) (pc' := 101) rfl (hb hby at_97) (by decide) (by decide) kt) ?_
          refine go (T' := T15) (g' := (mkF m 103 #[.val (.long q1), .second, .val (.long q2), .second, .val (.int p1), .val (.ref bq), .val (.int (1 : Int32)), .val (.long (q2 &&& (9223372036854775807 : Int64))), .second, .val (.long (if (0 : Int64) < q1 then q1 else 0)), .second] [])) (fun t kt => XS.istore X15.here hx rfl (hb hby at_101) rfl (l' := #[.val (.long q1), .second, .val (.long q2), .second, .val (.int p1), .val (.ref bq), .val (.int (1 : Int32)), .val (.long (q2 &&& (9223372036854775807 : Int64))), .second, .val (.long (if (0 : Int64) < q1 then q1 else 0)), .second]) rfl kt) ?_
          refine go (T' := T15) (g' := (mkF m 105 #[.val (.long q1), .second, .val (.long q2), .second, .val (.int p1), .val (.ref bq), .val (.int (1 : Int32)), .val (.long (q2 &&& (9223372036854775807 : Int64))), .second, .val (.long (if (0 : Int64) < q1 then q1 else 0)), .second] [(.int (1 : Int32))])) (fun t kt => XS.iload X15.here hx rfl (hb hby at_103) rfl kt) ?_
          refine go (T' := T15) (g' := (mkF m 108 #[.val (.long q1), .second, .val (.long q2), .second, .val (.int p1), .val (.ref bq), .val (.int (1 : Int32)), .val (.long (q2 &&& (9223372036854775807 : Int64))), .second, .val (.long (if (0 : Int64) < q1 then q1 else 0)), .second] [])) (fun t kt => XS.ifNo X15.here hx rfl (hb hby at_105) rfl ((if0 _ _).trans (feq own_ne10).1) kt) ?_
          refine go (T' := T15) (g' := (mkF m 110 #[.val (.long q1), .second, .val (.long q2), .second, .val (.int p1), .val (.ref bq), .val (.int (1 : Int32)), .val (.long (q2 &&& (9223372036854775807 : Int64))), .second, .val (.long (if (0 : Int64) < q1 then q1 else 0)), .second] [(.ref bq)])) (fun t kt => XS.aload X15.here hx rfl (hb hby at_108) rfl rfl kt) ?_
          obtain ⟨cq16, kq16, q16a, q16b, q16c⟩ := isOf hZ e15 fE_bq_14
          obtain ⟨_, _, ⟨T16, L16, k16, n16⟩, -, X16, ⟨Lc16, hQ16, l16, y16, z16⟩, st16⟩ := X15.virtualBack hx (y := (⟨"com/example/offerloom/offerloom/pricing/WorkAllowance", "spent", "()Z"⟩ : MethodName)) (z := (⟨"com/example/offerloom/offerloom/pricing/WorkAllowance", "spent", "()Z"⟩ : MethodName)) hown (mvT hZ (hw _ (List.mem_of_getElem? (i := 15) rfl))) (mvT hZ (hw _ (List.mem_of_getElem? (i := 16) rfl))) (notFace_of_selects (args := #[]) (mvT hZ (hw _ (List.mem_of_getElem? (i := 18) rfl)))) (mvT hZ (hw _ (List.mem_of_getElem? (i := 18) rfl))) (mvT hZ (hw _ (List.mem_of_getElem? (i := 17) rfl))) (by decide) (backOf (W := 0) (rm4 l Z a0 hw [] bq (own_max 0 (own_max 0 q1 - (q2 &&& (9223372036854775807 : Int64)))) T14.heap n0 z14 F14a) hZ (hw _ (List.mem_of_getElem? (i := 19) rfl)) (hw _ (List.mem_of_getElem? (i := 2) rfl)) (by decide) (by decide)) q16a q16c (g := (mkF m 110 #[.val (.long q1), .second, .val (.long q2), .second, .val (.int p1), .val (.ref bq), .val (.int (1 : Int32)), .val (.long (q2 &&& (9223372036854775807 : Int64))), .second, .val (.long (if (0 : Int64) < q1 then q1 else 0)), .second] [(.ref bq)])) rfl (by rw [hml]; rfl) (Steps.refl _) (argsL := []) (rest := []) (lenOf pd_2 rfl) rfl (by show 2 * 0 + _ ≤ _; exact Nat.le_of_eq rfl) (hb hby at_110) (fun _ _ => ⟨rfl, e15, (by decide : 1 + 0 ≤ _), (by decide : 1 + 0 ≤ _)⟩)
          dsimp only [Pt.U, Pt.locs, Pt.cells, Pt.slots] at X16 l16 y16 z16 st16 hQ16
          subst l16 y16 z16
          obtain ⟨rfl, N16q, e16⟩ := hQ16
          have N16 := Fr.app N15 N16q
          refine goV (T' := T16) (g' := (mkF m 113 #[.val (.long q1), .second, .val (.long q2), .second, .val (.int p1), .val (.ref bq), .val (.int (1 : Int32)), .val (.long (q2 &&& (9223372036854775807 : Int64))), .second, .val (.long (if (0 : Int64) < q1 then q1 else 0)), .second] [(.int (own_z (own_max 0 (own_max 0 q1 - (q2 &&& (9223372036854775807 : Int64))))))])) st16 ?_
          refine go (T' := T16) (g' := (mkF m 115 #[.val (.long q1), .second, .val (.long q2), .second, .val (.int p1), .val (.ref bq), .val (.int (1 : Int32)), .val (.long (q2 &&& (9223372036854775807 : Int64))), .second, .val (.long (if (0 : Int64) < q1 then q1 else 0)), .second] [(.ref bq), (.int (own_z (own_max 0 (own_max 0 q1 - (q2 &&& (9223372036854775807 : Int64))))))])) (fun t kt => XS.aload X16.here hx rfl (hb hby at_113) rfl rfl kt) ?_
          obtain ⟨cq17, kq17, q17a, q17b, q17c⟩ := isOf hZ e16 fE_bq_14
          obtain ⟨_, _, ⟨T17, L17, k17, n17⟩, -, X17, ⟨Lc17, hQ17, l17, y17, z17⟩, st17⟩ := X16.virtualBack hx (y := (⟨"com/example/offerloom/offerloom/pricing/WorkAllowance", "left", "()J"⟩ : MethodName)) (z := (⟨"com/example/offerloom/offerloom/pricing/WorkAllowance", "left", "()J"⟩ : MethodName)) hown (mvT hZ (hw _ (List.mem_of_getElem? (i := 20) rfl))) (mvT hZ (hw _ (List.mem_of_getElem? (i := 21) rfl))) (notFace_of_selects (args := #[]) (mvT hZ (hw _ (List.mem_of_getElem? (i := 23) rfl)))) (mvT hZ (hw _ (List.mem_of_getElem? (i := 23) rfl))) (mvT hZ (hw _ (List.mem_of_getElem? (i := 22) rfl))) (by decide) (backOf (W := 1) (rm5 l Z a0 hw [] bq (own_max 0 (own_max 0 q1 - (q2 &&& (9223372036854775807 : Int64)))) T14.heap n0 z14 F14a) hZ (hw _ (List.mem_of_getElem? (i := 24) rfl)) (hw _ (List.mem_of_getElem? (i := 2) rfl)) (by decide) (by decide)) q17a q17c (g := (mkF m 115 #[.val (.long q1), .second, .val (.long q2), .second, .val (.int p1), .val (.ref bq), .val (.int (1 : Int32)), .val (.long (q2 &&& (9223372036854775807 : Int64))), .second, .val (.long (if (0 : Int64) < q1 then q1 else 0)), .second] [(.ref bq), (.int (own_z (own_max 0 (own_max 0 q1 - (q2 &&& (9223372036854775807 : Int64))))))])) rfl (by rw [hml]; rfl) (Steps.refl _) (argsL := []) (rest := [(.int (own_z (own_max 0 (own_max 0 q1 - (q2 &&& (9223372036854775807 : Int64))))))]) (lenOf pd_3 rfl) rfl (by show 2 * 0 + _ ≤ _; exact Nat.le_of_eq rfl) (hb hby at_115) (fun _ _ => ⟨rfl, e16, (by decide : 1 + 0 ≤ _), (by decide : 1 + 0 ≤ _)⟩)
          dsimp only [Pt.U, Pt.locs, Pt.cells, Pt.slots] at X17 l17 y17 z17 st17 hQ17
          subst l17 y17 z17
          obtain ⟨rfl, N17q, e17⟩ := hQ17
          have N17 := Fr.app N16 N17q
          refine goV (T' := T17) (g' := (mkF m 118 #[.val (.long q1), .second, .val (.long q2), .second, .val (.int p1), .val (.ref bq), .val (.int (1 : Int32)), .val (.long (q2 &&& (9223372036854775807 : Int64))), .second, .val (.long (if (0 : Int64) < q1 then q1 else 0)), .second] [(.long (own_max 0 (own_max 0 q1 - (q2 &&& (9223372036854775807 : Int64))))), (.int (own_z (own_max 0 (own_max 0 q1 - (q2 &&& (9223372036854775807 : Int64))))))])) st17 ?_
          refine goVia (T₂ := T17) (g₂ := (mkF m 128 #[.val (.long q1), .second, .val (.long q2), .second, .val (.int p1), .val (.ref bq), .val (.int (1 : Int32)), .val (.long (q2 &&& (9223372036854775807 : Int64))), .second, .val (.long (if (0 : Int64) < q1 then q1 else 0)), .second] [(.int (own_z (own_max 0 (own_max 0 q1 - (q2 &&& (9223372036854775807 : Int64)))))), (.int (own_z (own_max 0 (own_max 0 q1 - (q2 &&& (9223372036854775807 : Int64))))))])) (fun kV => ?_) ?_
          · refine go (T' := T17) (g' := (mkF m 119 #[.val (.long q1), .second, .val (.long q2), .second, .val (.int p1), .val (.ref bq), .val (.int (1 : Int32)), .val (.long (q2 &&& (9223372036854775807 : Int64))), .second, .val (.long (if (0 : Int64) < q1 then q1 else 0)), .second] [(.long (0 : Int64)), (.long (own_max 0 (own_max 0 q1 - (q2 &&& (9223372036854775807 : Int64))))), (.int (own_z (own_max 0 (own_max 0 q1 - (q2 &&& (9223372036854775807 : Int64))))))])) (fun t kt => XS.lconst X17.here hx rfl (hb hby at_118) kt) ?_
            refine go (T' := T17) (g' := (mkF m 120 #[.val (.long q1), .second, .val (.long q2), .second, .val (.int p1), .val (.ref bq), .val (.int (1 : Int32)), .val (.long (q2 &&& (9223372036854775807 : Int64))), .second, .val (.long (if (0 : Int64) < q1 then q1 else 0)), .second] [(.int (lcmpW (own_max 0 (own_max 0 q1 - (q2 &&& (9223372036854775807 : Int64)))) (0 : Int64))), (.int (own_z (own_max 0 (own_max 0 q1 - (q2 &&& (9223372036854775807 : Int64))))))])) (fun t kt => XS.lcmp X17.here hx rfl (hb hby at_119) rfl kt) ?_
            by_cases he : (own_max 0 (own_max 0 q1 - (q2 &&& (9223372036854775807 : Int64)))) = (0 : Int64)
            · refine go (T' := T17) (g' := (mkF m 123 #[.val (.long q1), .second, .val (.long q2), .second, .val (.int p1), .val (.ref bq), .val (.int (1 : Int32)), .val (.long (q2 &&& (9223372036854775807 : Int64))), .second, .val (.long (if (0 : Int64) < q1 then q1 else 0)), .second] [(.int (own_z (own_max 0 (own_max 0 q1 - (q2 &&& (9223372036854775807 : Int64))))))])) (fun t kt => XS.ifNo X17.here hx rfl (hb hby at_120) rfl (own_l0 he).2 kt) ?_
              refine go (T' := T17) (g' := (mkF m 124 #[.val (.long q1), .second, .val (.long q2), .second, .val (.int p1), .val (.ref bq), .val (.int (1 : Int32)), .val (.long (q2 &&& (9223372036854775807 : Int64))), .second, .val (.long (if (0 : Int64) < q1 then q1 else 0)), .second] [(.int (1 : Int32)), (.int (own_z (own_max 0 (own_max 0 q1 - (q2 &&& (9223372036854775807 : Int64))))))])) (fun t kt => XS.iconst X17.here hx rfl (hb hby at_123) kt) ?_
              refine go (T' := T17) (g' := (mkF m 128 #[.val (.long q1), .second, .val (.long q2), .second, .val (.int p1), .val (.ref bq), .val (.int (1 : Int32)), .val (.long (q2 &&& (9223372036854775807 : Int64))), .second, .val (.long (if (0 : Int64) < q1 then q1 else 0)), .second] [(.int (1 : Int32)), (.int (own_z (own_max 0 (own_max 0 q1 - (q2 &&& (9223372036854775807 : Int64))))))])) (fun t kt => XS.goto X17.here hx rfl (pc0 := 124) (pc' := 128) rfl (hb hby at_124) (by decide) (by decide) kt) ?_
              exact goEq (by rw [own_z, if_pos he]) kV
            · refine go (T' := T17) (g' := (mkF m 127 #[.val (.long q1), .second, .val (.long q2), .second, .val (.int p1), .val (.ref bq), .val (.int (1 : Int32)), .val (.long (q2 &&& (9223372036854775807 : Int64))), .second, .val (.long (if (0 : Int64) < q1 then q1 else 0)), .second] [(.int (own_z (own_max 0 (own_max 0 q1 - (q2 &&& (9223372036854775807 : Int64))))))])) (fun t kt => XS.ifYes X17.here hx rfl (pc0 := 120) (pc' := 127) rfl (hb hby at_120) rfl (own_l1 he).2 (by decide) (by decide) kt) ?_
              refine go (T' := T17) (g' := (mkF m 128 #[.val (.long q1), .second, .val (.long q2), .second, .val (.int p1), .val (.ref bq), .val (.int (1 : Int32)), .val (.long (q2 &&& (9223372036854775807 : Int64))), .second, .val (.long (if (0 : Int64) < q1 then q1 else 0)), .second] [(.int (0 : Int32)), (.int (own_z (own_max 0 (own_max 0 q1 - (q2 &&& (9223372036854775807 : Int64))))))])) (fun t kt => XS.iconst X17.here hx rfl (hb hby at_127) kt) ?_
              exact goEq (by rw [own_z, if_neg he]) kV
          · refine go (T' := T17) (g' := (mkF m 131 #[.val (.long q1), .second, .val (.long q2), .second, .val (.int p1), .val (.ref bq), .val (.int (1 : Int32)), .val (.long (q2 &&& (9223372036854775807 : Int64))), .second, .val (.long (if (0 : Int64) < q1 then q1 else 0)), .second] [])) (fun t kt => XS.icmpNo X17.here hx rfl (hb hby at_128) rfl (teq (rfl : own_z (own_max 0 (own_max 0 q1 - (q2 &&& (9223372036854775807 : Int64)))) = _)).2 kt) ?_
            refine go (T' := T17) (g' := (mkF m 132 #[.val (.long q1), .second, .val (.long q2), .second, .val (.int p1), .val (.ref bq), .val (.int (1 : Int32)), .val (.long (q2 &&& (9223372036854775807 : Int64))), .second, .val (.long (if (0 : Int64) < q1 then q1 else 0)), .second] [(.int (1 : Int32))])) (fun t kt => XS.iconst X17.here hx rfl (hb hby at_131) kt) ?_
            refine go (T' := T17) (g' := (mkF m 136 #[.val (.long q1), .second, .val (.long q2), .second, .val (.int p1), .val (.ref bq), .val (.int (1 : Int32)), .val (.long (q2 &&& (9223372036854775807 : Int64))), .second, .val (.long (if (0 : Int64) < q1 then q1 else 0)), .second] [(.int (1 : Int32))])) (fun t kt => XS.goto X17.here hx rfl (pc0 := 132) (pc' := 136) rfl (hb hby at_132) (by decide) (by decide) kt) ?_
            refine goRetN X17 hx hlk (t := .boolean) Bd.returns (by simp) (hb hby at_136) ?_ (by decide) (by decide)
            rw [e17]
            exact ⟨rfl, N17⟩
set_option maxRecDepth 65536 in
set_option maxHeartbeats 40000000 in
theorem comes_1 {Post : Tables → Env → Array Value → State → Outcome → State → Prop} (hpost : ∀ tb e args s v u, (limb_1_1.after args s (.returned v) u = true ∧ limb_1_2.after args s (.returned v) u = true ∧ True) → FrameEnd s (.returned v) u (Jvm.fieldLocs frame_1_writes args s ++ Jvm.arrayLocs frame_1_arrays args s ++ Jvm.staticLocs frame_1_statics s) 16 128 → Post tb e args s (.returned v) u) :
    ArmFor flags0 classFile x code maxLocals ret World_1 tables_1 room_1 Calls_1 rest_1 Pre_1 Post := by
  intro l hfl _ _ p e ha hc hk s m args below hf hA hF happ hP
  obtain ⟨hcalls, hrest, hpre⟩ := hP
  obtain ⟨-, -, -, hnamed, -, -, -, hat⟩ := (Spec.applies_iff hf).mp happ
  obtain ⟨hg, hn⟩ := and_e (Cond.before_iff.mp (show (Jvm.Cond.and given_1 narrow_1).before args s = true from hpre))
  obtain ⟨g2, g2'⟩ := and_e hg
  obtain ⟨g4, g4'⟩ := and_e g2'
  obtain ⟨g6, g6'⟩ := and_e g4'
  obtain ⟨w0, w1, w2, rfl⟩ : ∃ w0 w1 w2 : Value, args = #[w0, w1, w2] := by
    have hs : args.size = 3 := by simpa [Cond.value, given_1] using g2
    obtain ⟨L⟩ := args
    match L, hs with
    | [w0, w1, w2], _ => exact ⟨w0, w1, w2, rfl⟩
  have hw := fun d (hd : d ∈ tables_1) => atoms_spec (ws := Jvm.Cond.code x code maxLocals ret :: tables_1) hat d (List.mem_cons_of_mem _ hd)
  have hfit : Fit s := fun {y c} hc i hi => by
    obtain ⟨ha, rfl⟩ := Array.getElem?_eq_some_iff.mp hc
    have q := List.all_eq_true.mp ((Array.all_eq_true_iff_forall_mem.mp hF) _ (Array.getElem_mem ha)) i (List.mem_range.mpr hi)
    simpa [Array.getElem?_eq_getElem hi] using q
  obtain ⟨i0, ei0⟩ := isL_v g4
  obtain rfl : w0 = (.long i0) := Option.some.inj ei0
  obtain ⟨i1, ei1⟩ := isL_v g6
  obtain rfl : w1 = (.long i1) := Option.some.inj ei1
  obtain ⟨i2, ei2⟩ := is_v g6'
  obtain rfl : w2 = (.int i2) := Option.some.inj ei2
  obtain ⟨n, o, h1, h2, h3, _, L, rfl, ⟨rfl, N⟩, hq⟩ := rm0 l s _ hw tables_1 i0 i1 i2 s.heap s.heap.size (Nat.le_refl _) p e ha hc hk s m _ below hf ((Spec.applies_iff_loose hf).mp happ).1 ⟨rfl, State.Warmed39.refl s, rfl⟩ trivial
  refine ⟨n, _, h1, h2, h3, hpost _ _ _ _ _ _ ⟨Cond.after_iff.mpr rfl, Cond.after_iff.mpr (eq_i res_at (Term.int_eval (1)) rfl), trivial⟩ ⟨hq.1, hq.2.1, (hq.2.2.sift fun y hy => Or.inr (N y hy)).mono (by decide) (by decide)⟩⟩
theorem main_1_1 : Claimed_1_1 := comes_1 fun _ _ _ _ _ _ h hF => ⟨h.1, hF⟩
theorem main_1_2 : Claimed_1_2 := comes_1 fun _ _ _ _ _ _ h hF => ⟨h.2.1, hF⟩
end Jvm.Pilot.@@N@@
namespace Jvm.Pilot.@@N@@
open Jvm Jvm.ClassFile Sem Op Lib Jvm.Free Jvm.Stand Jvm.Pilot.@@N@@.Jvm.D
/-! MADE BY PROGRAM (witnessworld.py) out of the Statement's table words and the real class files: 10 classes; the members and pool entries that the words name. The judged class is class 1, her method 1. -/
namespace start1
open Jvm.ClassFile
def u (s : String) : CpInfo := .utf8 (stringToUtf16 s)
/-- a pool by its gaps: so many unusable entries, then the entry; so many at the end -/
def gap : Nat → List CpInfo → List CpInfo
  | 0, r => r
  | n + 1, r => .unusable :: gap n r
def poolList (es : List (Nat × CpInfo)) (last : Nat) : List CpInfo := es.foldr (fun e r => gap e.1 (e.2 :: r)) (gap last [])
def pool (es : List (Nat × CpInfo)) (last : Nat) : Array CpInfo := ⟨poolList es last⟩
def fileOf (pool : Array CpInfo) (this : Nat) (attrs : Array Attribute := #[]) (ms : Array MethodInfo := #[]) (fl : Nat := 33) (sup : Nat := 0) (ifs : Array Nat := #[]) (fds : Array FieldInfo := #[]) : ClassFile where
  minorVersion := 0
  majorVersion := 65
  constantPool := pool
  accessFlags := fl
  thisClass := this
  superClass := sup
  interfaces := ifs
  fields := fds
  methods := ms
  attributes := attrs
def plain (name : String) (sup : Option ClassId) : Class where
  name := name
  kind := .ordinary
  loader := none
  accessFlags := 33
  super := sup
  interfaces := #[]
  cf := none
  fields := #[]
  methods := #[]
  instanceTypes := #[]
  staticTypes := #[]
  resolved := #[]
  callSites := []
  init := .initialized
  statics := none
  mirror := none

def pool0 : Array CpInfo := pool [(5, u "<init>"), (0, u "()V"), (1, .class_ 10), (1, u "java/lang/Object")] 113

def k0c0 : Code := { maxStack := 0, maxLocals := 1, code := object_method_1_code, exceptionTable := #[], attributes := #[] }
def k0m0 : Method := { name := "<init>", desc := "()V", sig := { parameters := [], returnType := none }, accessFlags := 1, code := some k0c0 }
/-- java/lang/Object -/
def k0 : Class := { plain "java/lang/Object" none with
  accessFlags := 33
  interfaces := #[]
  cf := some (fileOf pool0 8 #[] #[{ accessFlags := 1, nameIndex := 5, descriptorIndex := 6, attributes := #[] }] 33 0 #[] #[])
  fields := #[]
  methods := #[k0m0]
  instanceTypes := #[]
  staticTypes := #[]
  resolved := Array.replicate 124 none
  statics := none }

def pool1 : Array CpInfo := pool [(2, .class_ 4), (1, u "java/lang/Object"), (0, u "<init>"), (0, u "()V"), (0, .class_ 8), (0, u "com/example/offerloom/offerloom/pricing/WorkAllowance"), (0, .methodref 7 10), (0, .nameAndType 5 11), (0, u "(J)V"), (0, .methodref 7 13), (0, .nameAndType 14 15), (0, u "spent"), (0, u "()Z"), (2, .long 9223372036854775807), (1, .methodref 7 21), (0, .nameAndType 22 11), (0, u "spend"), (0, .methodref 7 24), (0, .nameAndType 25 26), (0, u "left"), (0, u "()J"), (0, .class_ 28), (0, u "com/example/offerloom/offerloom/pricing/WorkAllowanceSpentPinLaw"), (2, u "law"), (0, u "(JJI)Z")] 3

def k1m0 : Method := { name := "<init>", desc := "()V", sig := { parameters := [], returnType := none }, accessFlags := 1, code := none }
def k1c1 : Code := { maxStack := 5, maxLocals := 11, code := code, exceptionTable := #[], attributes := #[] }
def k1m1 : Method := { name := "law", desc := "(JJI)Z", sig := { parameters := [.long, .long, .int], returnType := some .boolean }, accessFlags := 9, code := some k1c1 }
/-- com/example/offerloom/offerloom/pricing/WorkAllowanceSpentPinLaw -/
def k1 : Class := { plain "com/example/offerloom/offerloom/pricing/WorkAllowanceSpentPinLaw" (some 0) with
  accessFlags := 49
  interfaces := #[]
  cf := some (fileOf pool1 27 #[] #[{ accessFlags := 1, nameIndex := 5, descriptorIndex := 6, attributes := #[] }, { accessFlags := 9, nameIndex := 31, descriptorIndex := 32, attributes := #[] }] 49 2 #[] #[])
  fields := #[]
  methods := #[k1m0, k1m1]
  instanceTypes := #[]
  staticTypes := #[]
  resolved := Array.replicate 36 none
  statics := none }

def pool2 : Array CpInfo := pool [(1, .methodref 2 3), (0, .class_ 4), (0, .nameAndType 5 6), (0, u "java/lang/Object"), (0, u "<init>"), (0, u "()V"), (0, .methodref 8 9), (0, .class_ 10), (0, .nameAndType 11 12), (0, u "java/lang/Math"), (0, u "max"), (0, u "(JJ)J"), (0, .fieldref 14 15), (0, .class_ 16), (0, .nameAndType 17 18), (0, u "com/example/offerloom/offerloom/pricing/WorkAllowance"), (0, u "left"), (0, u "J"), (5, u "()J"), (4, u "(J)V"), (0, u "NANOS_PER_WORK"), (5, u "spent"), (0, u "()Z"), (1, u "spend")] 2

def k2c0 : Code := { maxStack := 5, maxLocals := 3, code := prog_110_method_1_code, exceptionTable := #[], attributes := #[] }
def k2m0 : Method := { name := "<init>", desc := "(J)V", sig := { parameters := [.long], returnType := none }, accessFlags := 0, code := some k2c0 }
def k2c1 : Code := { maxStack := 2, maxLocals := 1, code := prog_110_method_3_code, exceptionTable := #[], attributes := #[] }
def k2m1 : Method := { name := "left", desc := "()J", sig := { parameters := [], returnType := some .long }, accessFlags := 0, code := some k2c1 }
def k2c2 : Code := { maxStack := 4, maxLocals := 1, code := prog_110_method_4_code, exceptionTable := #[], attributes := #[] }
def k2m2 : Method := { name := "spent", desc := "()Z", sig := { parameters := [], returnType := some .boolean }, accessFlags := 0, code := some k2c2 }
def k2c3 : Code := { maxStack := 7, maxLocals := 3, code := prog_110_method_5_code, exceptionTable := #[], attributes := #[] }
def k2m3 : Method := { name := "spend", desc := "(J)V", sig := { parameters := [.long], returnType := none }, accessFlags := 0, code := some k2c3 }
/-- com/example/offerloom/offerloom/pricing/WorkAllowance -/
def k2 : Class := { plain "com/example/offerloom/offerloom/pricing/WorkAllowance" (some 0) with
  accessFlags := 48
  interfaces := #[]
  cf := some (fileOf pool2 14 #[] #[{ accessFlags := 0, nameIndex := 5, descriptorIndex := 29, attributes := #[] }, { accessFlags := 0, nameIndex := 17, descriptorIndex := 24, attributes := #[] }, { accessFlags := 0, nameIndex := 36, descriptorIndex := 37, attributes := #[] }, { accessFlags := 0, nameIndex := 39, descriptorIndex := 29, attributes := #[] }] 48 2 #[] #[{ accessFlags := 26, nameIndex := 30, descriptorIndex := 18, attributes := #[] }, { accessFlags := 2, nameIndex := 17, descriptorIndex := 18, attributes := #[] }])
  fields := #[{ name := "NANOS_PER_WORK", type := .long, accessFlags := 26, slot := 0, constantValue := 0 }, { name := "left", type := .long, accessFlags := 2, slot := 0, constantValue := 0 }]
  methods := #[k2m0, k2m1, k2m2, k2m3]
  instanceTypes := #[.long]
  staticTypes := #[.long]
  resolved := Array.replicate 42 none
  statics := none }

def pool3 : Array CpInfo := pool [(1, .class_ 2), (0, u "java/lang/Math"), (1, .class_ 6), (1, u "java/lang/Object"), (0, u "<init>"), (0, u "()V"), (89, .class_ 100), (1, u "java/lang/Math$RandomNumberGeneratorHolder"), (20, u "(JJ)J"), (50, u "negativeZeroFloatBits"), (0, u "J"), (2, u "negativeZeroDoubleBits"), (21, u "max"), (46, u "$assertionsDisabled"), (0, u "Z"), (91, u "twoToTheDoubleScaleDown"), (0, u "D"), (4, u "twoToTheDoubleScaleUp"), (9, u "E"), (3, u "PI"), (2, u "TAU"), (2, u "DEGREES_TO_RADIANS"), (0, u "RADIANS_TO_DEGREES")] 94

def k3m0 : Method := { name := "<init>", desc := "()V", sig := { parameters := [], returnType := none }, accessFlags := 2, code := none }
def k3c1 : Code := { maxStack := 4, maxLocals := 4, code := jdk_29_method_66_code, exceptionTable := #[], attributes := #[] }
def k3m1 : Method := { name := "max", desc := "(JJ)J", sig := { parameters := [.long, .long], returnType := some .long }, accessFlags := 9, code := some k3c1 }
/-- java/lang/Math -/
def k3 : Class := { plain "java/lang/Math" (some 0) with
  accessFlags := 49
  interfaces := #[]
  cf := some (fileOf pool3 1 #[.nestMembers #[98]] #[{ accessFlags := 2, nameIndex := 7, descriptorIndex := 8, attributes := #[] }, { accessFlags := 9, nameIndex := 198, descriptorIndex := 121, attributes := #[] }] 49 4 #[] #[{ accessFlags := 25, nameIndex := 354, descriptorIndex := 339, attributes := #[] }, { accessFlags := 25, nameIndex := 358, descriptorIndex := 339, attributes := #[] }, { accessFlags := 25, nameIndex := 361, descriptorIndex := 339, attributes := #[] }, { accessFlags := 26, nameIndex := 364, descriptorIndex := 339, attributes := #[] }, { accessFlags := 26, nameIndex := 365, descriptorIndex := 339, attributes := #[] }, { accessFlags := 26, nameIndex := 172, descriptorIndex := 173, attributes := #[] }, { accessFlags := 26, nameIndex := 176, descriptorIndex := 173, attributes := #[] }, { accessFlags := 8, nameIndex := 344, descriptorIndex := 339, attributes := #[] }, { accessFlags := 8, nameIndex := 338, descriptorIndex := 339, attributes := #[] }, { accessFlags := 4120, nameIndex := 245, descriptorIndex := 246, attributes := #[] }])
  fields := #[{ name := "E", type := .double, accessFlags := 25, slot := 0, constantValue := 0 }, { name := "PI", type := .double, accessFlags := 25, slot := 1, constantValue := 0 }, { name := "TAU", type := .double, accessFlags := 25, slot := 2, constantValue := 0 }, { name := "DEGREES_TO_RADIANS", type := .double, accessFlags := 26, slot := 3, constantValue := 0 }, { name := "RADIANS_TO_DEGREES", type := .double, accessFlags := 26, slot := 4, constantValue := 0 }, { name := "negativeZeroFloatBits", type := .long, accessFlags := 26, slot := 5, constantValue := 0 }, { name := "negativeZeroDoubleBits", type := .long, accessFlags := 26, slot := 6, constantValue := 0 }, { name := "twoToTheDoubleScaleUp", type := .double, accessFlags := 8, slot := 7, constantValue := 0 }, { name := "twoToTheDoubleScaleDown", type := .double, accessFlags := 8, slot := 8, constantValue := 0 }, { name := "$assertionsDisabled", type := .boolean, accessFlags := 4120, slot := 9, constantValue := 0 }]
  methods := #[k3m0, k3m1]
  instanceTypes := #[]
  staticTypes := #[.double, .double, .double, .double, .double, .long, .long, .double, .double, .boolean]
  resolved := Array.replicate 460 none
  statics := none }

def pool4 : Array CpInfo := pool [(1, u "java/lang/Cloneable"), (0, .class_ 1), (0, u "java/lang/Object"), (0, .class_ 3)] 3

/-- java/lang/Cloneable -/
def k4 : Class := { plain "java/lang/Cloneable" (some 0) with
  accessFlags := 1537
  interfaces := #[]
  cf := some (fileOf pool4 2 #[] #[] 1537 4 #[] #[])
  fields := #[]
  methods := #[]
  instanceTypes := #[]
  staticTypes := #[]
  resolved := Array.replicate 8 none
  statics := none }

def pool5 : Array CpInfo := pool [(1, u "java/io/Serializable"), (0, .class_ 1), (0, u "java/lang/Object"), (0, .class_ 3)] 3

/-- java/io/Serializable -/
def k5 : Class := { plain "java/io/Serializable" (some 0) with
  accessFlags := 1537
  interfaces := #[]
  cf := some (fileOf pool5 2 #[] #[] 1537 4 #[] #[])
  fields := #[]
  methods := #[]
  instanceTypes := #[]
  staticTypes := #[]
  resolved := Array.replicate 8 none
  statics := none }

/-- the primitive byte -/
def k6 : Class := { plain "byte" none with kind := .primitive 'B', accessFlags := 0x411 }
/-- [B -/
def k7 : Class := { plain "[B" (some 0) with kind := .array 6 .byte, interfaces := #[4, 5], accessFlags := 1041 }

/-- the primitive int -/
def k8 : Class := { plain "int" none with kind := .primitive 'I', accessFlags := 0x411 }
/-- [I -/
def k9 : Class := { plain "[I" (some 0) with kind := .array 8 .int, interfaces := #[4, 5], accessFlags := 1041 }

def heap : Heap := #[]
def classes : Array Class := #[k0, k1, k2, k3, k4, k5, k6, k7, k8, k9]
def interned : List (Array UInt16 × Addr) := []
def slotsUsed : Nat := 0
def theMethod : MethodId := ⟨1, 1⟩
def args0 : Array Value := #[.long 5, .long 3, .int 1]
def aboutOver (below : List Frame) : State where
  vm := { classes := classes, interned := interned.toArray }
  heap := heap
  slotsUsed := slotsUsed
  threads := #[{ frames := .invoking theMethod args0 :: below }]
def below0 : List Frame := [.native { method := ⟨0, 0⟩, args := #[] }]
def about1 : State := aboutOver below0
def p0 : Program := .bare "" "" ""
def e0 : Env := launch0.env 0 0 0
theorem w_frames : about1.frames = Frame.invoking theMethod args0 :: below0 := rfl
set_option maxRecDepth 65536 in
theorem w_args : argsFit about1.vm theMethod args0 = true := by decide +kernel
set_option maxRecDepth 65536 in
theorem w_heap : heapFits about1 = true := by decide +kernel
set_option maxRecDepth 65536 in
theorem w_runnable : about1.curStatus? = some .runnable := by decide +kernel
set_option maxRecDepth 65536 in
theorem w_alone : about1.alone = true := by decide +kernel
set_option maxRecDepth 65536 in
theorem w_named : about1.methodNamed? x = some theMethod := by decide +kernel
set_option maxRecDepth 65536 in
theorem w_hears : about1.hears theMethod below0 = true := by decide +kernel
set_option maxRecDepth 65536 in
theorem w_ripe : about1.ripe theMethod args0 below0 = true := by decide +kernel
theorem w_running : about1.status = .running := rfl
set_option maxRecDepth 65536 in
theorem w_room : about1.hasRoom e0.platform room_1 = true :=
  launch0.hasRoom_least _ room_1 (by decide +kernel) (by decide +kernel) (by decide +kernel) (by decide +kernel) (by decide +kernel) (by decide +kernel)
theorem allAtoms_all (ts : List Jvm.Cond) (a : Array Jvm.Value) (st : Jvm.State) : (allAtoms ts).before a st = ts.all (fun c => c.before a st) := by
  induction ts with
  | nil => rfl
  | cons c t ih =>
    show (Jvm.Cond.and c (allAtoms t)).before a st = _
    rw [Jvm.Cond.before_and, ih, List.all_cons]
def words1 : List Jvm.Cond := Jvm.Cond.code x code maxLocals ret :: tables_1
/-- a 'code' word, met by the world's own term for the bytes: nothing is compared byte by byte -/
theorem code_word {y : MethodName} {bytes : ByteArray} {mx : Nat} {rt : Option FieldType} {a : Array Value} {s : State} {m : MethodId} {meth : Method} {c : Code} (h1 : s.methodNamed? y = some m) (h2 : s.vm.method? m = some meth) (h3 : meth.code = some c) (h4 : c.code = bytes)
    (h5 : (c.maxLocals == mx && c.exceptionTable.isEmpty && decide (c.maxStack ≤ mostOperands) && decide (meth.sig.returnType = rt) && !meth.locks && decide (parseMethodDescriptor y.desc = some meth.sig)) = true) : (Jvm.Cond.code y bytes mx rt).before a s = true := by
  simp only [Bool.and_eq_true, beq_iff_eq, Bool.not_eq_true', decide_eq_true_eq] at h5
  obtain ⟨⟨⟨⟨⟨g1, g2⟩, g3⟩, g4⟩, g5⟩, g6⟩ := h5
  simp [Cond.before, Cond.holds, Cond.value, h1, h2, h3, h4, g1, g2, g3, g4, g5, g6]
def isCode : Jvm.Cond → Bool
  | .code _ _ _ _ => true
  | _ => false
theorem all_split {L : List Jvm.Cond} {P : Jvm.Cond → Bool} (h1 : L.all (fun c => isCode c || P c) = true) (h2 : ∀ c ∈ L.filter isCode, P c = true) : L.all P = true := by
  refine List.all_eq_true.mpr fun c hc => ?_
  have h := List.all_eq_true.mp h1 c hc
  rcases Bool.eq_false_or_eq_true (isCode c) with hi | hi
  · exact h2 c (List.mem_filter.mpr ⟨hc, hi⟩)
  · simpa [hi] using h
set_option maxRecDepth 65536 in
theorem w_c0 : (Jvm.Cond.code x code maxLocals ret).before args0 about1 = true := code_word (m := ⟨1, 1⟩) (meth := k1m1) (c := k1c1) (by decide +kernel) rfl rfl rfl (by decide +kernel)
set_option maxRecDepth 65536 in
theorem w_c1 : (Jvm.Cond.code ({ cls := "com/example/offerloom/offerloom/pricing/WorkAllowance", name := "<init>", desc := "(J)V" } : Jvm.MethodName) prog_110_method_1_code (3 : Nat) (Option.none : Option Jvm.ClassFile.FieldType)).before args0 about1 = true := code_word (m := ⟨2, 0⟩) (meth := k2m0) (c := k2c0) (by decide +kernel) rfl rfl rfl (by decide +kernel)
set_option maxRecDepth 65536 in
theorem w_c2 : (Jvm.Cond.code ({ cls := "java/lang/Object", name := "<init>", desc := "()V" } : Jvm.MethodName) object_method_1_code (1 : Nat) (Option.none : Option Jvm.ClassFile.FieldType)).before args0 about1 = true := code_word (m := ⟨0, 0⟩) (meth := k0m0) (c := k0c0) (by decide +kernel) rfl rfl rfl (by decide +kernel)
set_option maxRecDepth 65536 in
theorem w_c3 : (Jvm.Cond.code ({ cls := "java/lang/Math", name := "max", desc := "(JJ)J" } : Jvm.MethodName) jdk_29_method_66_code (4 : Nat) (Option.some Jvm.ClassFile.FieldType.long)).before args0 about1 = true := code_word (m := ⟨3, 1⟩) (meth := k3m1) (c := k3c1) (by decide +kernel) rfl rfl rfl (by decide +kernel)
set_option maxRecDepth 65536 in
theorem w_c4 : (Jvm.Cond.code ({ cls := "com/example/offerloom/offerloom/pricing/WorkAllowance", name := "spent", desc := "()Z" } : Jvm.MethodName) prog_110_method_4_code (1 : Nat) (Option.some Jvm.ClassFile.FieldType.boolean)).before args0 about1 = true := code_word (m := ⟨2, 2⟩) (meth := k2m2) (c := k2c2) (by decide +kernel) rfl rfl rfl (by decide +kernel)
set_option maxRecDepth 65536 in
theorem w_c5 : (Jvm.Cond.code ({ cls := "com/example/offerloom/offerloom/pricing/WorkAllowance", name := "left", desc := "()J" } : Jvm.MethodName) prog_110_method_3_code (1 : Nat) (Option.some Jvm.ClassFile.FieldType.long)).before args0 about1 = true := code_word (m := ⟨2, 1⟩) (meth := k2m1) (c := k2c1) (by decide +kernel) rfl rfl rfl (by decide +kernel)
set_option maxRecDepth 65536 in
theorem w_c6 : (Jvm.Cond.code ({ cls := "com/example/offerloom/offerloom/pricing/WorkAllowance", name := "spend", desc := "(J)V" } : Jvm.MethodName) prog_110_method_5_code (3 : Nat) (Option.none : Option Jvm.ClassFile.FieldType)).before args0 about1 = true := code_word (m := ⟨2, 3⟩) (meth := k2m3) (c := k2c3) (by decide +kernel) rfl rfl rfl (by decide +kernel)
def codes1 : List Jvm.Cond := [Jvm.Cond.code x code maxLocals ret, Jvm.Cond.code ({ cls := "com/example/offerloom/offerloom/pricing/WorkAllowance", name := "<init>", desc := "(J)V" } : Jvm.MethodName) prog_110_method_1_code (3 : Nat) (Option.none : Option Jvm.ClassFile.FieldType), Jvm.Cond.code ({ cls := "java/lang/Object", name := "<init>", desc := "()V" } : Jvm.MethodName) object_method_1_code (1 : Nat) (Option.none : Option Jvm.ClassFile.FieldType), Jvm.Cond.code ({ cls := "java/lang/Math", name := "max", desc := "(JJ)J" } : Jvm.MethodName) jdk_29_method_66_code (4 : Nat) (Option.some Jvm.ClassFile.FieldType.long), Jvm.Cond.code ({ cls := "com/example/offerloom/offerloom/pricing/WorkAllowance", name := "spent", desc := "()Z" } : Jvm.MethodName) prog_110_method_4_code (1 : Nat) (Option.some Jvm.ClassFile.FieldType.boolean), Jvm.Cond.code ({ cls := "com/example/offerloom/offerloom/pricing/WorkAllowance", name := "left", desc := "()J" } : Jvm.MethodName) prog_110_method_3_code (1 : Nat) (Option.some Jvm.ClassFile.FieldType.long), Jvm.Cond.code ({ cls := "com/example/offerloom/offerloom/pricing/WorkAllowance", name := "spend", desc := "(J)V" } : Jvm.MethodName) prog_110_method_5_code (3 : Nat) (Option.none : Option Jvm.ClassFile.FieldType)]
set_option maxRecDepth 65536 in
theorem codes_eq : words1.filter isCode = codes1 := rfl
theorem w_codes : ∀ c ∈ words1.filter isCode, c.before args0 about1 = true := by
  rw [codes_eq]
  intro c hc
  simp only [codes1, List.mem_cons, List.not_mem_nil, or_false] at hc
  rcases hc with rfl | rfl | rfl | rfl | rfl | rfl | rfl
  · exact w_c0
  · exact w_c1
  · exact w_c2
  · exact w_c3
  · exact w_c4
  · exact w_c5
  · exact w_c6
set_option maxRecDepth 65536 in
theorem w_t1 : (words1.take 24).all (fun c => isCode c || c.before args0 about1) = true := by decide +kernel
set_option maxRecDepth 65536 in
theorem w_t2 : (words1.drop 24).all (fun c => isCode c || c.before args0 about1) = true := by decide +kernel
theorem w_tables : (allAtoms (Jvm.Cond.code x code maxLocals ret :: tables_1)).before args0 about1 = true := by
  rw [allAtoms_all]
  show words1.all (fun c => c.before args0 about1) = true
  refine all_split ?_ w_codes
  rw [← List.take_append_drop 24 words1, List.all_append, w_t1, w_t2]
  rfl
set_option maxRecDepth 65536 in
theorem w_case : (Jvm.Cond.and given_1 narrow_1).before args0 about1 = true := by decide +kernel
theorem w_applies : (headSpec (Jvm.Cond.code x code maxLocals ret :: tables_1) room_1).applies x e0.platform about1 = true :=
  (Spec.applies_iff w_frames).mpr ⟨w_running, w_runnable, w_alone, w_named, w_hears, w_ripe, w_room, w_tables⟩
theorem atStart : AtStart classFile x code maxLocals ret World_1 tables_1 room_1 Calls_1 rest_1 Pre_1 launch0 p0 e0 about1 theMethod args0 below0 :=
  ⟨lists_1, trivial, launch0.admits_env _ _ _, launch0.least_env, fairChoices_fair.cas, fairChoices_fair.clock, w_frames, w_args, w_heap, w_applies, trivial, trivial, w_case⟩
end start1
theorem witness_1 : WitnessClaimed_1 := ⟨start1.p0, start1.e0, start1.about1, start1.theMethod, start1.args0, start1.below0, start1.atStart⟩
end Jvm.Pilot.@@N@@
