import JvmDerived
import JvmDerived.Pilot.@@N@@Statement
import JvmDerived.Pilot.@@N@@Code
set_option linter.unusedVariables false
set_option linter.unusedSimpArgs false
namespace Jvm.Pilot.@@N@@
open Jvm Jvm.ClassFile Sem Op Lib Jvm.Free Jvm.Stand Jvm.LawKit Jvm.RoadKit Bundle Jvm.Pilot.@@N@@.Jvm.D
section OwnKit
variable {p : Program} {l : Launch} {e : Env} {R : Room} {s : State} {m : MethodId} {args : Array Value} {below : List Frame} {meth : Method} {c : Code} {T T' : State} {locs : List Loc} {cells slots ck sk : Nat} {Q : Option Value → Heap → List Loc → Prop} {g g' : JFrame}
/-- from the state T with the top frame g the body ends, and Q says how -/
def Goes (p : Program) (e : Env) (below : List Frame) (s : State) (ck sk : Nat) (Q : Option Value → Heap → List Loc → Prop) (T : State) (g : JFrame) : Prop :=
  ∃ s₂ o, Steps p.tables e below (T.setTop g) s₂ ∧ s₂.status = .running ∧ Ended s₂ below o ∧ ∃ v L, o = .returned v ∧ Q v s₂.heap L ∧ FrameEnd s o s₂ L ck sk
theorem go (h : ∀ t, Steps p.tables e below (T'.setTop g') t → Steps p.tables e below (T.setTop g) t) (k : Goes p e below s ck sk Q T' g') : Goes p e below s ck sk Q T g := by
  obtain ⟨s₂, o, h1, r⟩ := k
  exact ⟨s₂, o, h _ h1, r⟩
theorem goV (h : Steps p.tables e below (T.setTop g) (T'.setTop g')) (k : Goes p e below s ck sk Q T' g') : Goes p e below s ck sk Q T g := go (fun _ kt => h.trans kt) k
theorem goEq (h : g = g') (k : Goes p e below s ck sk Q T g') : Goes p e below s ck sk Q T g := h ▸ k
theorem goVia {T₂ : State} {g₂ : JFrame} (h : Goes p e below s ck sk Q T₂ g₂ → Goes p e below s ck sk Q T g) (k : Goes p e below s ck sk Q T₂ g₂) : Goes p e below s ck sk Q T g := h k
theorem goRetN (X : Stand p l e R s m args below meth c T locs cells slots) (hx : p.tables.exec = Jvm.exec) (hlk : meth.locks = false) {pc : Nat} {Ls : Array Slot} {z : Int32} {t : FieldType} {rest : List Value} (hret : meth.sig.returnType = some t) (ht : t = .boolean ∨ t = .byte ∨ t = .char ∨ t = .short) (hd : decode c.code pc = .ok (.ireturn, 1))
    (hq : Q (some (.int (nar t z))) T.heap locs) (h1 : cells ≤ ck) (h2 : slots ≤ sk) : Goes p e below s ck sk Q T (mkF m pc Ls (.int z :: rest)) := by
  obtain ⟨fs, hr, hrun, hended, hW, hsame⟩ := X.leave (v := some (.int (nar t z))) (fun h => by rw [hret] at h; cases h)
  exact ⟨_, _, retN X hx hret ht hd hr, hrun, hended, _, _, rfl, hq, ⟨_, rfl⟩, hW, hsame.mono h1 h2⟩
theorem goRetI (X : Stand p l e R s m args below meth c T locs cells slots) (hx : p.tables.exec = Jvm.exec) (hlk : meth.locks = false) {pc : Nat} {Ls : Array Slot} {z : Int32} {rest : List Value} (hret : meth.sig.returnType = some .int) (hd : decode c.code pc = .ok (.ireturn, 1))
    (hq : Q (some (.int z)) T.heap locs) (h1 : cells ≤ ck) (h2 : slots ≤ sk) : Goes p e below s ck sk Q T (mkF m pc Ls (.int z :: rest)) := by
  obtain ⟨fs, hr, hrun, hended, hW, hsame⟩ := X.leave (v := some (.int z)) (fun h => by rw [hret] at h; cases h)
  exact ⟨_, _, retOut X hx hret rfl (Or.inl ⟨rfl, Or.inl rfl, z, rfl⟩) hd hr, hrun, hended, _, _, rfl, hq, ⟨_, rfl⟩, hW, hsame.mono h1 h2⟩
theorem goRetJ (X : Stand p l e R s m args below meth c T locs cells slots) (hx : p.tables.exec = Jvm.exec) (hlk : meth.locks = false) {pc : Nat} {Ls : Array Slot} {z : Int64} {rest : List Value} (hret : meth.sig.returnType = some .long) (hd : decode c.code pc = .ok (.lreturn, 1))
    (hq : Q (some (.long z)) T.heap locs) (h1 : cells ≤ ck) (h2 : slots ≤ sk) : Goes p e below s ck sk Q T (mkF m pc Ls (.long z :: rest)) := by
  obtain ⟨fs, hr, hrun, hended, hW, hsame⟩ := X.leave (v := some (.long z)) (fun h => by rw [hret] at h; cases h)
  exact ⟨_, _, retOut X hx hret rfl (Or.inr (Or.inl ⟨rfl, rfl, z, rfl⟩)) hd hr, hrun, hended, _, _, rfl, hq, ⟨_, rfl⟩, hW, hsame.mono h1 h2⟩
theorem goRetA (X : Stand p l e R s m args below meth c T locs cells slots) (hx : p.tables.exec = Jvm.exec) (hlk : meth.locks = false) {pc : Nat} {Ls : Array Slot} {w : Value} {t : FieldType} {rest : List Value} (hret : meth.sig.returnType = some t) (ht : t.isReference = true) (hn : narrow t w = w) (hw : w.isRef = true) (hd : decode c.code pc = .ok (.areturn, 1))
    (hq : Q (some w) T.heap locs) (h1 : cells ≤ ck) (h2 : slots ≤ sk) : Goes p e below s ck sk Q T (mkF m pc Ls (w :: rest)) := by
  obtain ⟨fs, hr, hrun, hended, hW, hsame⟩ := X.leave (v := some w) (fun h => by rw [hret] at h; cases h)
  exact ⟨_, _, retOut X hx hret hn (Or.inr (Or.inr (Or.inr (Or.inr ⟨rfl, ht, hw⟩)))) hd hr, hrun, hended, _, _, rfl, hq, ⟨_, rfl⟩, hW, hsame.mono h1 h2⟩
theorem goRetV (X : Stand p l e R s m args below meth c T locs cells slots) (hx : p.tables.exec = Jvm.exec) (hlk : meth.locks = false) {pc : Nat} {Ls : Array Slot} (hret : meth.sig.returnType = none) (hd : decode c.code pc = .ok (.return_, 1))
    (hq : Q none T.heap locs) (h1 : cells ≤ ck) (h2 : slots ≤ sk) : Goes p e below s ck sk Q T (mkF m pc Ls []) := by
  obtain ⟨fs, hr, hrun, hended, hW, hsame⟩ := X.leave (v := none) (fun _ => rfl)
  exact ⟨_, _, X.returnOut hx hret hd hr, hrun, hended, _, _, rfl, hq, ⟨_, rfl⟩, hW, hsame.mono h1 h2⟩
theorem own_l0 {x y : Int64} (h : x = y) : ifCond.holds .eq (lcmpW x y) = true ∧ ifCond.holds .ne (lcmpW x y) = false := by rw [if0, if0]; exact teq ((lw_eq x y).mpr h)
theorem own_l1 {x y : Int64} (h : ¬ x = y) : ifCond.holds .eq (lcmpW x y) = false ∧ ifCond.holds .ne (lcmpW x y) = true := by rw [if0, if0]; exact feq fun q => h ((lw_eq x y).mp q)
theorem own_l2 {x y : Int64} (h : x < y) : ifCond.holds .lt (lcmpW x y) = true ∧ ifCond.holds .ge (lcmpW x y) = false := by rw [if0, if0]; exact ⟨(tlt ((lw_lt x y).mpr h)).1, (tlt ((lw_lt x y).mpr h)).2.1⟩
theorem own_l3 {x y : Int64} (h : ¬ x < y) : ifCond.holds .lt (lcmpW x y) = false ∧ ifCond.holds .ge (lcmpW x y) = true := by
  rw [if0, if0]
  have q : ¬ lcmpW x y < 0 := fun q => h ((lw_lt x y).mp q)
  exact ⟨(flt q).1, (flt q).2.1⟩
theorem own_l4 {x y : Int64} (h : y < x) : ifCond.holds .gt (lcmpW x y) = true ∧ ifCond.holds .le (lcmpW x y) = false := by rw [if0, if0]; exact ⟨(tlt ((lw_gt x y).mpr h)).2.2.1, (tlt ((lw_gt x y).mpr h)).2.2.2⟩
theorem own_l5 {x y : Int64} (h : ¬ y < x) : ifCond.holds .gt (lcmpW x y) = false ∧ ifCond.holds .le (lcmpW x y) = true := by
  rw [if0, if0]
  have q : ¬ 0 < lcmpW x y := fun q => h ((lw_gt x y).mp q)
  exact ⟨(flt q).2.2.1, (flt q).2.2.2⟩
end OwnKit
def own_ok (v : Int64) (a : Int32) : Int32 := if a.toInt64 < v then 0 else 1
def own_al (v m t : Int64) (a b c : Int32) : Int32 := own_ok v a &&& own_ok m b &&& own_ok t c
theorem own_al0 {v m t : Int64} {a b c : Int32} (h : a.toInt64 < v ∨ b.toInt64 < m ∨ c.toInt64 < t) : some (Value.int (nar .boolean 0)) = some (Value.int (own_al v m t a b c)) := by
  unfold own_al own_ok
  rcases h with h | h | h <;> rw [if_pos h] <;> (repeat' split) <;> rfl
theorem own_al1 {v m t : Int64} {a b c : Int32} (h1 : ¬ a.toInt64 < v) (h2 : ¬ b.toInt64 < m) (h3 : ¬ c.toInt64 < t) : some (Value.int (nar .boolean 1)) = some (Value.int (own_al v m t a b c)) := by
  unfold own_al own_ok
  rw [if_neg h1, if_neg h2, if_neg h3]; rfl
theorem own_and (x : Int32) : 0 ≤ (x &&& 2147483647).toInt := by
  have h : (x &&& 2147483647).toBitVec.msb = false := by
    show (x.toBitVec &&& 2147483647#32).msb = false
    rw [BitVec.msb_and, show (2147483647#32).msb = false from by decide, Bool.and_false]
  show 0 ≤ (x &&& 2147483647).toBitVec.toInt
  rw [BitVec.toInt_eq_msb_cond, h]; simp
def own_max (x y : Int32) : Int32 := if x < y then y else x
def own_lim (f k v : Int32) : Int32 := if (f >>> (k &&& 31)) &&& 1 = 0 then own_max 1 (v &&& 2147483647) else 2147483647
def own_nl (x y z : Int32) : Int32 := if x = 2147483647 ∧ y = 2147483647 ∧ z = 2147483647 then 1 else 0
theorem own_lim1 (f k v : Int32) : ¬ own_lim f k v < 1 := by
  unfold own_lim own_max
  split
  · split
    · rename_i h; intro q
      have q := Int32.lt_iff_toInt_lt.mp q; have h := Int32.lt_iff_toInt_lt.mp h; omega
    · decide
  · decide
theorem own_okM (a : Int32) : own_ok 2147483647 a = if a = 2147483647 then 1 else 0 := by
  unfold own_ok
  have e : (2147483647 : Int64).toInt = 2147483647 := rfl
  have e2 : (2147483647 : Int32).toInt = 2147483647 := rfl
  have h1 : a.toInt64 < 2147483647 ↔ ¬ a = 2147483647 := by
    rw [Int64.lt_iff_toInt_lt, e, Int32.toInt_toInt64]
    have := a.toInt_lt
    constructor
    · rintro h rfl; rw [e2] at h; omega
    · intro h
      have : a.toInt ≠ 2147483647 := fun q => h (Int32.toInt_inj.mp (q.trans e2.symm))
      omega
  by_cases q : a = 2147483647
  · rw [if_pos q, if_neg (fun z => h1.mp z q)]
  · rw [if_neg q, if_pos (h1.mpr q)]
theorem own_alM (a b c : Int32) : own_al 2147483647 2147483647 2147483647 a b c = own_nl a b c := by
  unfold own_al own_nl
  rw [own_okM, own_okM, own_okM]
  by_cases h1 : a = 2147483647 <;> by_cases h2 : b = 2147483647 <;> by_cases h3 : c = 2147483647 <;> simp [h1, h2, h3] <;> decide

theorem d2_0 : decode jdk_29_method_65_code 0 = .ok (.iload_n 0, 1) := by decide +kernel
theorem d2_1 : decode jdk_29_method_65_code 1 = .ok (.iload_n 1, 1) := by decide +kernel
theorem d2_2 : decode jdk_29_method_65_code 2 = .ok (.if_icmp .lt 7, 3) := by decide +kernel
theorem d2_5 : decode jdk_29_method_65_code 5 = .ok (.iload_n 0, 1) := by decide +kernel
theorem d2_6 : decode jdk_29_method_65_code 6 = .ok (.goto 4, 3) := by decide +kernel
theorem d2_9 : decode jdk_29_method_65_code 9 = .ok (.iload_n 1, 1) := by decide +kernel
theorem d2_10 : decode jdk_29_method_65_code 10 = .ok (.ireturn, 1) := by decide +kernel
theorem ef_2 (m : MethodId) (p1 : Int32) (p2 : Int32) : entryFrame m #[(.int p1), (.int p2)] 2 = mkF m 0 #[.val (.int p1), .val (.int p2)] [] := by first | (simp [entryFrame, mkF, argsToLocals, Value.category]; done) | rfl
def Q2 (Z : State) (p1 : Int32) (p2 : Int32) (h0 : Heap) (n0 : Nat) (v : Option Value) (h : Heap) (L : List Loc) : Prop := v = some (.int (own_max p1 p2)) ∧ Fr n0 L ∧ h = h0
set_option maxRecDepth 65536 in
set_option maxHeartbeats 40000000 in
theorem rm2 (l : Launch) (Z : State) (a0 : Array Value) (hw : ∀ d ∈ tables_1, d.before a0 Z = true) (ws : List Jvm.Cond) (p1 : Int32) (p2 : Int32) (h0 : Heap) (n0 : Nat) (Z0 : n0 ≤ h0.size)  :
    MetFree l (⟨"java/lang/Math", "max", "(II)I"⟩ : MethodName) (head1 (Jvm.Cond.code (⟨"java/lang/Math", "max", "(II)I"⟩ : MethodName) jdk_29_method_65_code 2 (some .int) :: ws) ({ frames := 0, cells := 0, slots := 0, locals := 0 } : Room)) (fun a U => a = #[(.int p1), (.int p2)] ∧ Z.Warmed39 U.vm ∧ U.heap = h0) (fun _ _ _ _ _ => True) (fun _ U o U' => ∃ v L, o = .returned v ∧ Q2 Z p1 p2 h0 n0 v U'.heap L ∧ FrameEnd U o U' L ({ frames := 0, cells := 0, slots := 0, locals := 0 } : Room).cells ({ frames := 0, cells := 0, slots := 0, locals := 0 } : Room).slots) := by
  refine MetFree.of_bodySF (Jvm.Free.JP.mathPlain rfl (by decide +kernel)) hisR ?_
  intro p e s m args below meth c s₁ Bd hml0 hP hK
  obtain ⟨rfl, hZ, hh⟩ := hP
  have hx := Bd.exec
  have hby := Bd.bytes
  have hlk := Bd.notSynchronized
  have hml : c.maxLocals = 2 := hml0
  have hown : s.vm.findClass "java/lang/Math" = some m.cls := findClass_of_methodNamed Bd.named
  have hnm := (name_of_methodNamed Bd.named Bd.method).1
  have X0 : Stand p l e ({ frames := 0, cells := 0, slots := 0, locals := 0 } : Room) s m #[(.int p1), (.int p2)] below meth c s₁ [] 0 0 := Stand.of_body Bd
  have e0 : s₁.heap = h0 := by rw [← hh, Bd.state]; rfl
  have N0 := Fr.nil n0
  show Goes p e below s 0 0 (Q2 Z p1 p2 h0 n0) s₁ (entryFrame m #[(.int p1), (.int p2)] 2)
  refine goEq (ef_2 m p1 p2) ?_
  refine go (T' := s₁) (g' := (mkF m 1 #[.val (.int p1), .val (.int p2)] [(.int p1)])) (fun t kt => XS.iloadN X0.here hx rfl (hb hby d2_0) rfl kt) ?_
  refine go (T' := s₁) (g' := (mkF m 2 #[.val (.int p1), .val (.int p2)] [(.int p2), (.int p1)])) (fun t kt => XS.iloadN X0.here hx rfl (hb hby d2_1) rfl kt) ?_
  by_cases hc : p1 < p2
  · refine go (T' := s₁) (g' := (mkF m 9 #[.val (.int p1), .val (.int p2)] [])) (fun t kt => XS.icmpYes X0.here hx rfl (pc0 := 2) (pc' := 9) rfl (hb hby d2_2) rfl (tlt hc).1 (by decide) (by decide) kt) ?_
    refine go (T' := s₁) (g' := (mkF m 10 #[.val (.int p1), .val (.int p2)] [(.int p2)])) (fun t kt => XS.iloadN X0.here hx rfl (hb hby d2_9) rfl kt) ?_
    refine goRetI X0 hx hlk Bd.returns (hb hby d2_10) ?_ (by decide) (by decide)
    rw [e0]
    exact ⟨by rw [own_max, if_pos hc], N0, rfl⟩
  · refine go (T' := s₁) (g' := (mkF m 5 #[.val (.int p1), .val (.int p2)] [])) (fun t kt => XS.icmpNo X0.here hx rfl (hb hby d2_2) rfl (flt hc).1 kt) ?_
    refine go (T' := s₁) (g' := (mkF m 6 #[.val (.int p1), .val (.int p2)] [(.int p1)])) (fun t kt => XS.iloadN X0.here hx rfl (hb hby d2_5) rfl kt) ?_
    refine go (T' := s₁) (g' := (mkF m 10 #[.val (.int p1), .val (.int p2)] [(.int p1)])) (fun t kt => XS.goto X0.here hx rfl (pc0 := 6) (pc' := 10) rfl (hb hby d2_6) (by decide) (by decide) kt) ?_
    refine goRetI X0 hx hlk Bd.returns (hb hby d2_10) ?_ (by decide) (by decide)
    rw [e0]
    exact ⟨by rw [own_max, if_neg hc], N0, rfl⟩
theorem d1_0 : decode method_2_code 0 = .ok (.iload_n 0, 1) := by decide +kernel
theorem d1_1 : decode method_2_code 1 = .ok (.iload_n 1, 1) := by decide +kernel
theorem d1_2 : decode method_2_code 2 = .ok (.ishr, 1) := by decide +kernel
theorem d1_3 : decode method_2_code 3 = .ok (.iconst 1, 1) := by decide +kernel
theorem d1_4 : decode method_2_code 4 = .ok (.iand, 1) := by decide +kernel
theorem d1_5 : decode method_2_code 5 = .ok (.ifCond .eq 6, 3) := by decide +kernel
theorem d1_8 : decode method_2_code 8 = .ok (.ldc 9, 2) := by decide +kernel
theorem d1_10 : decode method_2_code 10 = .ok (.ireturn, 1) := by decide +kernel
theorem d1_11 : decode method_2_code 11 = .ok (.iconst 1, 1) := by decide +kernel
theorem d1_12 : decode method_2_code 12 = .ok (.iload_n 2, 1) := by decide +kernel
theorem d1_13 : decode method_2_code 13 = .ok (.ldc 9, 2) := by decide +kernel
theorem d1_15 : decode method_2_code 15 = .ok (.iand, 1) := by decide +kernel
theorem d1_16 : decode method_2_code 16 = .ok (.invokestatic 10, 3) := by decide +kernel
theorem d1_19 : decode method_2_code 19 = .ok (.ireturn, 1) := by decide +kernel
theorem pd_0 : parseMethodDescriptor "(II)I" = some ⟨[.int, .int], some .int⟩ := by decide +kernel
theorem pn_1 : plainName "com/example/tidemark/tidemark/QuotasLimitNothingPinLaw" = true := by first | (simp [plainName, overriddenIn]; done) | decide +kernel
theorem ef_1 (m : MethodId) (p1 : Int32) (p2 : Int32) (p3 : Int32) : entryFrame m #[(.int p1), (.int p2), (.int p3)] 3 = mkF m 0 #[.val (.int p1), .val (.int p2), .val (.int p3)] [] := by first | (simp [entryFrame, mkF, argsToLocals, Value.category]; done) | rfl
def Q1 (Z : State) (p1 : Int32) (p2 : Int32) (p3 : Int32) (h0 : Heap) (n0 : Nat) (v : Option Value) (h : Heap) (L : List Loc) : Prop := v = some (.int (own_lim p1 p2 p3)) ∧ Fr n0 L ∧ h = h0
set_option maxRecDepth 65536 in
set_option maxHeartbeats 40000000 in
theorem rm1 (l : Launch) (Z : State) (a0 : Array Value) (hw : ∀ d ∈ tables_1, d.before a0 Z = true) (ws : List Jvm.Cond) (p1 : Int32) (p2 : Int32) (p3 : Int32) (h0 : Heap) (n0 : Nat) (Z0 : n0 ≤ h0.size)  :
    MetFree l (⟨"com/example/tidemark/tidemark/QuotasLimitNothingPinLaw", "limit", "(III)I"⟩ : MethodName) (head1 (Jvm.Cond.code (⟨"com/example/tidemark/tidemark/QuotasLimitNothingPinLaw", "limit", "(III)I"⟩ : MethodName) method_2_code 3 (some .int) :: ws) ({ frames := 1, cells := 0, slots := 0, locals := 13 } : Room)) (fun a U => a = #[(.int p1), (.int p2), (.int p3)] ∧ Z.Warmed39 U.vm ∧ U.heap = h0) (fun _ _ _ _ _ => True) (fun _ U o U' => ∃ v L, o = .returned v ∧ Q1 Z p1 p2 p3 h0 n0 v U'.heap L ∧ FrameEnd U o U' L ({ frames := 1, cells := 0, slots := 0, locals := 13 } : Room).cells ({ frames := 1, cells := 0, slots := 0, locals := 13 } : Room).slots) := by
  refine MetFree.of_bodySF (plainFor_of_name pn_1) hisR ?_
  intro p e s m args below meth c s₁ Bd hml0 hP hK
  obtain ⟨rfl, hZ, hh⟩ := hP
  have hx := Bd.exec
  have hby := Bd.bytes
  have hlk := Bd.notSynchronized
  have hml : c.maxLocals = 3 := hml0
  have hown : s.vm.findClass "com/example/tidemark/tidemark/QuotasLimitNothingPinLaw" = some m.cls := findClass_of_methodNamed Bd.named
  have hnm := (name_of_methodNamed Bd.named Bd.method).1
  have X0 : Stand p l e ({ frames := 1, cells := 0, slots := 0, locals := 13 } : Room) s m #[(.int p1), (.int p2), (.int p3)] below meth c s₁ [] 0 0 := Stand.of_body Bd
  have e0 : s₁.heap = h0 := by rw [← hh, Bd.state]; rfl
  have N0 := Fr.nil n0
  show Goes p e below s 0 0 (Q1 Z p1 p2 p3 h0 n0) s₁ (entryFrame m #[(.int p1), (.int p2), (.int p3)] 3)
  refine goEq (ef_1 m p1 p2 p3) ?_
  refine go (T' := s₁) (g' := (mkF m 1 #[.val (.int p1), .val (.int p2), .val (.int p3)] [(.int p1)])) (fun t kt => XS.iloadN X0.here hx rfl (hb hby d1_0) rfl kt) ?_
  refine go (T' := s₁) (g' := (mkF m 2 #[.val (.int p1), .val (.int p2), .val (.int p3)] [(.int p2), (.int p1)])) (fun t kt => XS.iloadN X0.here hx rfl (hb hby d1_1) rfl kt) ?_
  refine go (T' := s₁) (g' := (mkF m 3 #[.val (.int p1), .val (.int p2), .val (.int p3)] [(.int (p1 >>> (p2 &&& 31)))])) (fun t kt => XS.ishr X0.here hx rfl (hb hby d1_2) rfl kt) ?_
  refine go (T' := s₁) (g' := (mkF m 4 #[.val (.int p1), .val (.int p2), .val (.int p3)] [(.int (1 : Int32)), (.int (p1 >>> (p2 &&& 31)))])) (fun t kt => XS.iconst X0.here hx rfl (hb hby d1_3) kt) ?_
  refine go (T' := s₁) (g' := (mkF m 5 #[.val (.int p1), .val (.int p2), .val (.int p3)] [(.int ((p1 >>> (p2 &&& 31)) &&& (1 : Int32)))])) (fun t kt => XS.iand X0.here hx rfl (hb hby d1_4) rfl kt) ?_
  by_cases hc : ((p1 >>> (p2 &&& 31)) &&& (1 : Int32)) = (0 : Int32)
  · refine go (T' := s₁) (g' := (mkF m 11 #[.val (.int p1), .val (.int p2), .val (.int p3)] [])) (fun t kt => XS.ifYes X0.here hx rfl (pc0 := 5) (pc' := 11) rfl (hb hby d1_5) rfl ((if0 _ _).trans (teq hc).1) (by decide) (by decide) kt) ?_
    refine go (T' := s₁) (g' := (mkF m 12 #[.val (.int p1), .val (.int p2), .val (.int p3)] [(.int (1 : Int32))])) (fun t kt => XS.iconst X0.here hx rfl (hb hby d1_11) kt) ?_
    refine go (T' := s₁) (g' := (mkF m 13 #[.val (.int p1), .val (.int p2), .val (.int p3)] [(.int p3), (.int (1 : Int32))])) (fun t kt => XS.iloadN X0.here hx rfl (hb hby d1_12) rfl kt) ?_
    refine go (T' := s₁) (g' := (mkF m 15 #[.val (.int p1), .val (.int p2), .val (.int p3)] [(.int (2147483647 : Int32)), (.int p3), (.int (1 : Int32))])) (fun t kt => X0.ldcInt hx hown (mvT hZ (hw _ (List.mem_of_getElem? (i := 4) rfl))) (g := (mkF m 13 #[.val (.int p1), .val (.int p2), .val (.int p3)] [(.int p3), (.int (1 : Int32))])) rfl (hb hby d1_13) _ kt) ?_
    refine go (T' := s₁) (g' := (mkF m 16 #[.val (.int p1), .val (.int p2), .val (.int p3)] [(.int (p3 &&& (2147483647 : Int32))), (.int (1 : Int32))])) (fun t kt => XS.iand X0.here hx rfl (hb hby d1_15) rfl kt) ?_
    obtain ⟨_, _, ⟨T1, L1, k1, n1⟩, -, X1, ⟨Lc1, hQ1, l1, y1, z1⟩, st1⟩ := Jvm.LawKit.callS X0 hx (y := (⟨"java/lang/Math", "max", "(II)I"⟩ : MethodName)) hown (mvT hZ (hw _ (List.mem_of_getElem? (i := 5) rfl))) (mvT hZ (hw _ (List.mem_of_getElem? (i := 6) rfl))) (mvT hZ (hw _ (List.mem_of_getElem? (i := 7) rfl))) (mvT hZ (hw _ (List.mem_of_getElem? (i := 8) rfl))) (by decide) (backOf (W := 0) (rm2 l Z a0 hw [] 1 (p3 &&& 2147483647) h0 n0 Z0) hZ (hw _ (List.mem_of_getElem? (i := 8) rfl)) (hw _ (List.mem_of_getElem? (i := 7) rfl)) (by decide) (by decide)) (g := (mkF m 16 #[.val (.int p1), .val (.int p2), .val (.int p3)] [(.int (p3 &&& (2147483647 : Int32))), (.int (1 : Int32))])) rfl (by rw [hml]; rfl) (argsL := [(.int (1 : Int32)), (.int (p3 &&& (2147483647 : Int32)))]) (rest := []) (lenOf pd_0 rfl) rfl (by show 2 * 0 + _ ≤ _; exact Nat.le_of_eq rfl) (hb hby d1_16) (fun _ _ => ⟨rfl, e0, (by decide : 0 + 0 ≤ _), (by decide : 0 + 0 ≤ _)⟩)
    dsimp only [Pt.U, Pt.locs, Pt.cells, Pt.slots] at X1 l1 y1 z1 st1 hQ1
    subst l1 y1 z1
    obtain ⟨rfl, N1q, e1⟩ := hQ1
    have N1 := Fr.app N0 N1q
    refine go (T' := T1) (g' := (mkF m 19 #[.val (.int p1), .val (.int p2), .val (.int p3)] [(.int (own_max 1 (p3 &&& 2147483647)))])) st1 ?_
    refine goRetI X1 hx hlk Bd.returns (hb hby d1_19) ?_ (by decide) (by decide)
    rw [e1]
    exact ⟨by rw [own_lim, if_pos hc], N1, rfl⟩
  · refine go (T' := s₁) (g' := (mkF m 8 #[.val (.int p1), .val (.int p2), .val (.int p3)] [])) (fun t kt => XS.ifNo X0.here hx rfl (hb hby d1_5) rfl ((if0 _ _).trans (feq hc).1) kt) ?_
    refine go (T' := s₁) (g' := (mkF m 10 #[.val (.int p1), .val (.int p2), .val (.int p3)] [(.int (2147483647 : Int32))])) (fun t kt => X0.ldcInt hx hown (mvT hZ (hw _ (List.mem_of_getElem? (i := 4) rfl))) (g := (mkF m 8 #[.val (.int p1), .val (.int p2), .val (.int p3)] [])) rfl (hb hby d1_8) _ kt) ?_
    refine goRetI X0 hx hlk Bd.returns (hb hby d1_10) ?_ (by decide) (by decide)
    rw [e0]
    exact ⟨by rw [own_lim, if_neg hc], N0, rfl⟩
theorem d3_0 : decode prog_7_method_1_code 0 = .ok (.aload_n 0, 1) := by decide +kernel
theorem d3_1 : decode prog_7_method_1_code 1 = .ok (.invokespecial 3, 3) := by decide +kernel
theorem d3_4 : decode prog_7_method_1_code 4 = .ok (.iload_n 1, 1) := by decide +kernel
theorem d3_5 : decode prog_7_method_1_code 5 = .ok (.iconst 1, 1) := by decide +kernel
theorem d3_6 : decode prog_7_method_1_code 6 = .ok (.if_icmp .lt 13, 3) := by decide +kernel
theorem d3_9 : decode prog_7_method_1_code 9 = .ok (.iload_n 2, 1) := by decide +kernel
theorem d3_10 : decode prog_7_method_1_code 10 = .ok (.iconst 1, 1) := by decide +kernel
theorem d3_11 : decode prog_7_method_1_code 11 = .ok (.if_icmp .lt 8, 3) := by decide +kernel
theorem d3_14 : decode prog_7_method_1_code 14 = .ok (.iload_n 3, 1) := by decide +kernel
theorem d3_15 : decode prog_7_method_1_code 15 = .ok (.iconst 1, 1) := by decide +kernel
theorem d3_16 : decode prog_7_method_1_code 16 = .ok (.if_icmp .ge 19, 3) := by decide +kernel
theorem d3_19 : decode prog_7_method_1_code 19 = .ok (.new 9, 3) := by decide +kernel
theorem d3_22 : decode prog_7_method_1_code 22 = .ok (.dup, 1) := by decide +kernel
theorem d3_23 : decode prog_7_method_1_code 23 = .ok (.iload_n 1, 1) := by decide +kernel
theorem d3_24 : decode prog_7_method_1_code 24 = .ok (.iload_n 2, 1) := by decide +kernel
theorem d3_25 : decode prog_7_method_1_code 25 = .ok (.iload_n 3, 1) := by decide +kernel
theorem d3_26 : decode prog_7_method_1_code 26 = .ok (.invokedynamic 11, 5) := by decide +kernel
theorem d3_31 : decode prog_7_method_1_code 31 = .ok (.invokespecial 15, 3) := by decide +kernel
theorem d3_34 : decode prog_7_method_1_code 34 = .ok (.athrow, 1) := by decide +kernel
theorem d3_35 : decode prog_7_method_1_code 35 = .ok (.aload_n 0, 1) := by decide +kernel
theorem d3_36 : decode prog_7_method_1_code 36 = .ok (.iload_n 1, 1) := by decide +kernel
theorem d3_37 : decode prog_7_method_1_code 37 = .ok (.putfield 18, 3) := by decide +kernel
theorem d3_40 : decode prog_7_method_1_code 40 = .ok (.aload_n 0, 1) := by decide +kernel
theorem d3_41 : decode prog_7_method_1_code 41 = .ok (.iload_n 2, 1) := by decide +kernel
theorem d3_42 : decode prog_7_method_1_code 42 = .ok (.putfield 24, 3) := by decide +kernel
theorem d3_45 : decode prog_7_method_1_code 45 = .ok (.aload_n 0, 1) := by decide +kernel
theorem d3_46 : decode prog_7_method_1_code 46 = .ok (.iload_n 3, 1) := by decide +kernel
theorem d3_47 : decode prog_7_method_1_code 47 = .ok (.putfield 27, 3) := by decide +kernel
theorem d3_50 : decode prog_7_method_1_code 50 = .ok (.return_, 1) := by decide +kernel
theorem pn_3 : plainName "com/example/tidemark/tidemark/Quotas" = true := by first | (simp [plainName, overriddenIn]; done) | decide +kernel
theorem ef_3 (m : MethodId) (a1 : Addr) (p1 : Int32) (p2 : Int32) (p3 : Int32) : entryFrame m #[(.ref a1), (.int p1), (.int p2), (.int p3)] 4 = mkF m 0 #[.val (.ref a1), .val (.int p1), .val (.int p2), .val (.int p3)] [] := by first | (simp [entryFrame, mkF, argsToLocals, Value.category]; done) | rfl
def Q3 (Z : State) (a1 : Addr) (p1 : Int32) (p2 : Int32) (p3 : Int32) (h0 : Heap) (n0 : Nat) (v : Option Value) (h : Heap) (L : List Loc) : Prop := v = none ∧ Fr n0 L ∧ Keep h0 h [a1] ∧ Fld Z h a1 "com/example/tidemark/tidemark/Quotas" "maxVcpus" "I" (.int p1) ∧ Fld Z h a1 "com/example/tidemark/tidemark/Quotas" "maxVms" "I" (.int p2) ∧ Fld Z h a1 "com/example/tidemark/tidemark/Quotas" "maxVmsPerType" "I" (.int p3)
set_option maxRecDepth 65536 in
set_option maxHeartbeats 40000000 in
theorem rm3 (l : Launch) (Z : State) (a0 : Array Value) (hw : ∀ d ∈ tables_1, d.before a0 Z = true) (ws : List Jvm.Cond) (a1 : Addr) (p1 : Int32) (p2 : Int32) (p3 : Int32) (h0 : Heap) (n0 : Nat) (Z0 : n0 ≤ h0.size) (g_a1 : n0 ≤ a1) (E1 : Exa Z h0 a1 "com/example/tidemark/tidemark/Quotas") (F0 : Fld Z h0 a1 "com/example/tidemark/tidemark/Quotas" "maxVcpus" "I" (.int (0 : Int32))) (F1 : Fld Z h0 a1 "com/example/tidemark/tidemark/Quotas" "maxVms" "I" (.int (0 : Int32))) (F2 : Fld Z h0 a1 "com/example/tidemark/tidemark/Quotas" "maxVmsPerType" "I" (.int (0 : Int32))) (k1 : ¬ p1 < 1) (k2 : ¬ p2 < 1) (k3 : ¬ p3 < 1) :
    MetFree l (⟨"com/example/tidemark/tidemark/Quotas", "<init>", "(III)V"⟩ : MethodName) (head1 (Jvm.Cond.code (⟨"com/example/tidemark/tidemark/Quotas", "<init>", "(III)V"⟩ : MethodName) prog_7_method_1_code 4 none :: ws) ({ frames := 1, cells := 0, slots := 0, locals := 12 } : Room)) (fun a U => a = #[(.ref a1), (.int p1), (.int p2), (.int p3)] ∧ Z.Warmed39 U.vm ∧ U.heap = h0) (fun _ _ _ _ _ => True) (fun _ U o U' => ∃ v L, o = .returned v ∧ Q3 Z a1 p1 p2 p3 h0 n0 v U'.heap L ∧ FrameEnd U o U' L ({ frames := 1, cells := 0, slots := 0, locals := 12 } : Room).cells ({ frames := 1, cells := 0, slots := 0, locals := 12 } : Room).slots) := by
  refine MetFree.of_bodySF (plainFor_of_name pn_3) hisR ?_
  intro p e s m args below meth c s₁ Bd hml0 hP hK
  obtain ⟨rfl, hZ, hh⟩ := hP
  have hx := Bd.exec
  have hby := Bd.bytes
  have hlk := Bd.notSynchronized
  have hml : c.maxLocals = 4 := hml0
  have hown : s.vm.findClass "com/example/tidemark/tidemark/Quotas" = some m.cls := findClass_of_methodNamed Bd.named
  have hnm := (name_of_methodNamed Bd.named Bd.method).1
  have X0 : Stand p l e ({ frames := 1, cells := 0, slots := 0, locals := 12 } : Room) s m #[(.ref a1), (.int p1), (.int p2), (.int p3)] below meth c s₁ [] 0 0 := Stand.of_body Bd
  have e0 : s₁.heap = h0 := by rw [← hh, Bd.state]; rfl
  have N0 := Fr.nil n0
  show Goes p e below s 0 0 (Q3 Z a1 p1 p2 p3 h0 n0) s₁ (entryFrame m #[(.ref a1), (.int p1), (.int p2), (.int p3)] 4)
  refine goEq (ef_3 m a1 p1 p2 p3) ?_
  refine go (T' := s₁) (g' := (mkF m 1 #[.val (.ref a1), .val (.int p1), .val (.int p2), .val (.int p3)] [(.ref a1)])) (fun t kt => XS.aloadN X0.here hx rfl (hb hby d3_0) rfl rfl kt) ?_
  obtain ⟨T2, X2, e2, st2⟩ := initO X0 hx hZ hown (hw _ (List.mem_of_getElem? (i := 15) rfl)) (hw _ (List.mem_of_getElem? (i := 16) rfl)) (hw _ (List.mem_of_getElem? (i := 17) rfl)) e0 (g := (mkF m 1 #[.val (.ref a1), .val (.int p1), .val (.int p2), .val (.int p3)] [(.ref a1)])) rfl (by rw [hml]; rfl) rfl (hb hby d3_1) (by decide) (W := 0) (by show 2 * 0 + _ ≤ _; exact Nat.le_of_eq rfl) (by decide)
  refine go (T' := T2) (g' := (mkF m 4 #[.val (.ref a1), .val (.int p1), .val (.int p2), .val (.int p3)] [])) st2 ?_
  refine go (T' := T2) (g' := (mkF m 5 #[.val (.ref a1), .val (.int p1), .val (.int p2), .val (.int p3)] [(.int p1)])) (fun t kt => XS.iloadN X2.here hx rfl (hb hby d3_4) rfl kt) ?_
  refine go (T' := T2) (g' := (mkF m 6 #[.val (.ref a1), .val (.int p1), .val (.int p2), .val (.int p3)] [(.int (1 : Int32)), (.int p1)])) (fun t kt => XS.iconst X2.here hx rfl (hb hby d3_5) kt) ?_
  refine go (T' := T2) (g' := (mkF m 9 #[.val (.ref a1), .val (.int p1), .val (.int p2), .val (.int p3)] [])) (fun t kt => XS.icmpNo X2.here hx rfl (hb hby d3_6) rfl (flt k1).1 kt) ?_
  refine go (T' := T2) (g' := (mkF m 10 #[.val (.ref a1), .val (.int p1), .val (.int p2), .val (.int p3)] [(.int p2)])) (fun t kt => XS.iloadN X2.here hx rfl (hb hby d3_9) rfl kt) ?_
  refine go (T' := T2) (g' := (mkF m 11 #[.val (.ref a1), .val (.int p1), .val (.int p2), .val (.int p3)] [(.int (1 : Int32)), (.int p2)])) (fun t kt => XS.iconst X2.here hx rfl (hb hby d3_10) kt) ?_
  refine go (T' := T2) (g' := (mkF m 14 #[.val (.ref a1), .val (.int p1), .val (.int p2), .val (.int p3)] [])) (fun t kt => XS.icmpNo X2.here hx rfl (hb hby d3_11) rfl (flt k2).1 kt) ?_
  refine go (T' := T2) (g' := (mkF m 15 #[.val (.ref a1), .val (.int p1), .val (.int p2), .val (.int p3)] [(.int p3)])) (fun t kt => XS.iloadN X2.here hx rfl (hb hby d3_14) rfl kt) ?_
  refine go (T' := T2) (g' := (mkF m 16 #[.val (.ref a1), .val (.int p1), .val (.int p2), .val (.int p3)] [(.int (1 : Int32)), (.int p3)])) (fun t kt => XS.iconst X2.here hx rfl (hb hby d3_15) kt) ?_
  refine go (T' := T2) (g' := (mkF m 35 #[.val (.ref a1), .val (.int p1), .val (.int p2), .val (.int p3)] [])) (fun t kt => XS.icmpYes X2.here hx rfl (pc0 := 16) (pc' := 35) rfl (hb hby d3_16) rfl (flt k3).2.1 (by decide) (by decide) kt) ?_
  refine go (T' := T2) (g' := (mkF m 36 #[.val (.ref a1), .val (.int p1), .val (.int p2), .val (.int p3)] [(.ref a1)])) (fun t kt => XS.aloadN X2.here hx rfl (hb hby d3_35) rfl rfl kt) ?_
  refine go (T' := T2) (g' := (mkF m 37 #[.val (.ref a1), .val (.int p1), .val (.int p2), .val (.int p3)] [(.int p1), (.ref a1)])) (fun t kt => XS.iloadN X2.here hx rfl (hb hby d3_36) rfl kt) ?_
  obtain ⟨T3, h3, X3, e3, W3, st3⟩ := putF X2 hx hZ hown (host := "") (Or.inl (hw _ (List.mem_of_getElem? (i := 18) rfl))) Via.refl e2 F0 E1 (Or.inr ⟨(hw _ (List.mem_of_getElem? (i := 19) rfl)), rfl, hnm⟩) (hw _ (List.mem_of_getElem? (i := 10) rfl)) (ty := .int) (by decide) rfl rfl (g := (mkF m 37 #[.val (.ref a1), .val (.int p1), .val (.int p2), .val (.int p3)] [(.int p1), (.ref a1)])) rfl rfl (hb hby d3_37)
  have z3 : n0 ≤ h3.size := Nat.le_trans Z0 (Keep.of_wr W3).1
  have fE_a1_3 : Exa Z h3 a1 "com/example/tidemark/tidemark/Quotas" := E1.wr W3
  have fF_a1_maxVms_3 : Fld Z h3 a1 "com/example/tidemark/tidemark/Quotas" "maxVms" "I" (.int (0 : Int32)) := F1.other W3 (Or.inr (slot_ne (Or.inr (hw _ (List.mem_of_getElem? (i := 21) rfl))) (Or.inr (hw _ (List.mem_of_getElem? (i := 19) rfl))) (by decide) (t := .int) (t' := .int) (by decide) (by decide)))
  have fF_a1_maxVmsPerType_3 : Fld Z h3 a1 "com/example/tidemark/tidemark/Quotas" "maxVmsPerType" "I" (.int (0 : Int32)) := F2.other W3 (Or.inr (slot_ne (Or.inr (hw _ (List.mem_of_getElem? (i := 23) rfl))) (Or.inr (hw _ (List.mem_of_getElem? (i := 19) rfl))) (by decide) (t := .int) (t' := .int) (by decide) (by decide)))
  have Fw3 : Fld Z h3 a1 "com/example/tidemark/tidemark/Quotas" "maxVcpus" "I" (.int p1) := F0.same W3
  have K3 : Keep h0 h3 [a1] := (Keep.refl h0 [a1]).wr W3 (Or.inl (List.mem_of_getElem? (i := 0) rfl))
  have N3 := Fr.snoc X3 N0 g_a1
  refine go (T' := T3) (g' := (mkF m 40 #[.val (.ref a1), .val (.int p1), .val (.int p2), .val (.int p3)] [])) st3 ?_
  refine go (T' := T3) (g' := (mkF m 41 #[.val (.ref a1), .val (.int p1), .val (.int p2), .val (.int p3)] [(.ref a1)])) (fun t kt => XS.aloadN X3.here hx rfl (hb hby d3_40) rfl rfl kt) ?_
  refine go (T' := T3) (g' := (mkF m 42 #[.val (.ref a1), .val (.int p1), .val (.int p2), .val (.int p3)] [(.int p2), (.ref a1)])) (fun t kt => XS.iloadN X3.here hx rfl (hb hby d3_41) rfl kt) ?_
  obtain ⟨T4, h4, X4, e4, W4, st4⟩ := putF X3 hx hZ hown (host := "") (Or.inl (hw _ (List.mem_of_getElem? (i := 20) rfl))) Via.refl e3 fF_a1_maxVms_3 fE_a1_3 (Or.inr ⟨(hw _ (List.mem_of_getElem? (i := 21) rfl)), rfl, hnm⟩) (hw _ (List.mem_of_getElem? (i := 10) rfl)) (ty := .int) (by decide) rfl rfl (g := (mkF m 42 #[.val (.ref a1), .val (.int p1), .val (.int p2), .val (.int p3)] [(.int p2), (.ref a1)])) rfl rfl (hb hby d3_42)
  have z4 : n0 ≤ h4.size := Nat.le_trans z3 (Keep.of_wr W4).1
  have fE_a1_4 : Exa Z h4 a1 "com/example/tidemark/tidemark/Quotas" := fE_a1_3.wr W4
  have fF_a1_maxVcpus_4 : Fld Z h4 a1 "com/example/tidemark/tidemark/Quotas" "maxVcpus" "I" (.int p1) := Fw3.other W4 (Or.inr (slot_ne (Or.inr (hw _ (List.mem_of_getElem? (i := 19) rfl))) (Or.inr (hw _ (List.mem_of_getElem? (i := 21) rfl))) (by decide) (t := .int) (t' := .int) (by decide) (by decide)))
  have fF_a1_maxVmsPerType_4 : Fld Z h4 a1 "com/example/tidemark/tidemark/Quotas" "maxVmsPerType" "I" (.int (0 : Int32)) := fF_a1_maxVmsPerType_3.other W4 (Or.inr (slot_ne (Or.inr (hw _ (List.mem_of_getElem? (i := 23) rfl))) (Or.inr (hw _ (List.mem_of_getElem? (i := 21) rfl))) (by decide) (t := .int) (t' := .int) (by decide) (by decide)))
  have Fw4 : Fld Z h4 a1 "com/example/tidemark/tidemark/Quotas" "maxVms" "I" (.int p2) := fF_a1_maxVms_3.same W4
  have K4 : Keep h0 h4 [a1] := K3.wr W4 (Or.inl (List.mem_of_getElem? (i := 0) rfl))
  have N4 := Fr.snoc X4 N3 g_a1
  refine go (T' := T4) (g' := (mkF m 45 #[.val (.ref a1), .val (.int p1), .val (.int p2), .val (.int p3)] [])) st4 ?_
  refine go (T' := T4) (g' := (mkF m 46 #[.val (.ref a1), .val (.int p1), .val (.int p2), .val (.int p3)] [(.ref a1)])) (fun t kt => XS.aloadN X4.here hx rfl (hb hby d3_45) rfl rfl kt) ?_
  refine go (T' := T4) (g' := (mkF m 47 #[.val (.ref a1), .val (.int p1), .val (.int p2), .val (.int p3)] [(.int p3), (.ref a1)])) (fun t kt => XS.iloadN X4.here hx rfl (hb hby d3_46) rfl kt) ?_
  obtain ⟨T5, h5, X5, e5, W5, st5⟩ := putF X4 hx hZ hown (host := "") (Or.inl (hw _ (List.mem_of_getElem? (i := 22) rfl))) Via.refl e4 fF_a1_maxVmsPerType_4 fE_a1_4 (Or.inr ⟨(hw _ (List.mem_of_getElem? (i := 23) rfl)), rfl, hnm⟩) (hw _ (List.mem_of_getElem? (i := 10) rfl)) (ty := .int) (by decide) rfl rfl (g := (mkF m 47 #[.val (.ref a1), .val (.int p1), .val (.int p2), .val (.int p3)] [(.int p3), (.ref a1)])) rfl rfl (hb hby d3_47)
  have z5 : n0 ≤ h5.size := Nat.le_trans z4 (Keep.of_wr W5).1
  have fE_a1_5 : Exa Z h5 a1 "com/example/tidemark/tidemark/Quotas" := fE_a1_4.wr W5
  have fF_a1_maxVcpus_5 : Fld Z h5 a1 "com/example/tidemark/tidemark/Quotas" "maxVcpus" "I" (.int p1) := fF_a1_maxVcpus_4.other W5 (Or.inr (slot_ne (Or.inr (hw _ (List.mem_of_getElem? (i := 19) rfl))) (Or.inr (hw _ (List.mem_of_getElem? (i := 23) rfl))) (by decide) (t := .int) (t' := .int) (by decide) (by decide)))
  have fF_a1_maxVms_5 : Fld Z h5 a1 "com/example/tidemark/tidemark/Quotas" "maxVms" "I" (.int p2) := Fw4.other W5 (Or.inr (slot_ne (Or.inr (hw _ (List.mem_of_getElem? (i := 21) rfl))) (Or.inr (hw _ (List.mem_of_getElem? (i := 23) rfl))) (by decide) (t := .int) (t' := .int) (by decide) (by decide)))
  have Fw5 : Fld Z h5 a1 "com/example/tidemark/tidemark/Quotas" "maxVmsPerType" "I" (.int p3) := fF_a1_maxVmsPerType_4.same W5
  have K5 : Keep h0 h5 [a1] := K4.wr W5 (Or.inl (List.mem_of_getElem? (i := 0) rfl))
  have N5 := Fr.snoc X5 N4 g_a1
  refine go (T' := T5) (g' := (mkF m 50 #[.val (.ref a1), .val (.int p1), .val (.int p2), .val (.int p3)] [])) st5 ?_
  refine goRetV X5 hx hlk Bd.returns (hb hby d3_50) ?_ (by decide) (by decide)
  rw [e5]
  exact ⟨rfl, N5, K5, fF_a1_maxVcpus_5, fF_a1_maxVms_5, Fw5⟩
theorem d6_0 : decode prog_7_method_6_code 0 = .ok (.lload_n 1, 1) := by decide +kernel
theorem d6_1 : decode prog_7_method_6_code 1 = .ok (.aload_n 0, 1) := by decide +kernel
theorem d6_2 : decode prog_7_method_6_code 2 = .ok (.getfield 18, 3) := by decide +kernel
theorem d6_5 : decode prog_7_method_6_code 5 = .ok (.i2l, 1) := by decide +kernel
theorem d6_6 : decode prog_7_method_6_code 6 = .ok (.lcmp, 1) := by decide +kernel
theorem d6_7 : decode prog_7_method_6_code 7 = .ok (.ifCond .gt 28, 3) := by decide +kernel
theorem d6_10 : decode prog_7_method_6_code 10 = .ok (.lload_n 3, 1) := by decide +kernel
theorem d6_11 : decode prog_7_method_6_code 11 = .ok (.aload_n 0, 1) := by decide +kernel
theorem d6_12 : decode prog_7_method_6_code 12 = .ok (.getfield 24, 3) := by decide +kernel
theorem d6_15 : decode prog_7_method_6_code 15 = .ok (.i2l, 1) := by decide +kernel
theorem d6_16 : decode prog_7_method_6_code 16 = .ok (.lcmp, 1) := by decide +kernel
theorem d6_17 : decode prog_7_method_6_code 17 = .ok (.ifCond .gt 18, 3) := by decide +kernel
theorem d6_20 : decode prog_7_method_6_code 20 = .ok (.lload 5, 2) := by decide +kernel
theorem d6_22 : decode prog_7_method_6_code 22 = .ok (.aload_n 0, 1) := by decide +kernel
theorem d6_23 : decode prog_7_method_6_code 23 = .ok (.getfield 27, 3) := by decide +kernel
theorem d6_26 : decode prog_7_method_6_code 26 = .ok (.i2l, 1) := by decide +kernel
theorem d6_27 : decode prog_7_method_6_code 27 = .ok (.lcmp, 1) := by decide +kernel
theorem d6_28 : decode prog_7_method_6_code 28 = .ok (.ifCond .gt 7, 3) := by decide +kernel
theorem d6_31 : decode prog_7_method_6_code 31 = .ok (.iconst 1, 1) := by decide +kernel
theorem d6_32 : decode prog_7_method_6_code 32 = .ok (.goto 4, 3) := by decide +kernel
theorem d6_35 : decode prog_7_method_6_code 35 = .ok (.iconst 0, 1) := by decide +kernel
theorem d6_36 : decode prog_7_method_6_code 36 = .ok (.ireturn, 1) := by decide +kernel
theorem ef_6 (m : MethodId) (a1 : Addr) (q1 : Int64) (q2 : Int64) (q3 : Int64) : entryFrame m #[(.ref a1), (.long q1), (.long q2), (.long q3)] 7 = mkF m 0 #[.val (.ref a1), .val (.long q1), .second, .val (.long q2), .second, .val (.long q3), .second] [] := by first | (simp [entryFrame, mkF, argsToLocals, Value.category]; done) | rfl
def Q6 (Z : State) (a1 : Addr) (q1 : Int64) (q2 : Int64) (q3 : Int64) (p1 : Int32) (p2 : Int32) (p3 : Int32) (h0 : Heap) (n0 : Nat) (v : Option Value) (h : Heap) (L : List Loc) : Prop := v = some (.int (own_al q1 q2 q3 p1 p2 p3)) ∧ Fr n0 L ∧ h = h0
set_option maxRecDepth 65536 in
set_option maxHeartbeats 40000000 in
theorem rm6 (l : Launch) (Z : State) (a0 : Array Value) (hw : ∀ d ∈ tables_1, d.before a0 Z = true) (ws : List Jvm.Cond) (a1 : Addr) (q1 : Int64) (q2 : Int64) (q3 : Int64) (p1 : Int32) (p2 : Int32) (p3 : Int32) (h0 : Heap) (n0 : Nat) (Z0 : n0 ≤ h0.size) (F0 : Fld Z h0 a1 "com/example/tidemark/tidemark/Quotas" "maxVcpus" "I" (.int p1)) (F1 : Fld Z h0 a1 "com/example/tidemark/tidemark/Quotas" "maxVms" "I" (.int p2)) (F2 : Fld Z h0 a1 "com/example/tidemark/tidemark/Quotas" "maxVmsPerType" "I" (.int p3)) :
    MetFree l (⟨"com/example/tidemark/tidemark/Quotas", "allow", "(JJJ)Z"⟩ : MethodName) (head1 (Jvm.Cond.code (⟨"com/example/tidemark/tidemark/Quotas", "allow", "(JJJ)Z"⟩ : MethodName) prog_7_method_6_code 7 (some .boolean) :: ws) ({ frames := 0, cells := 0, slots := 0, locals := 0 } : Room)) (fun a U => a = #[(.ref a1), (.long q1), (.long q2), (.long q3)] ∧ Z.Warmed39 U.vm ∧ U.heap = h0) (fun _ _ _ _ _ => True) (fun _ U o U' => ∃ v L, o = .returned v ∧ Q6 Z a1 q1 q2 q3 p1 p2 p3 h0 n0 v U'.heap L ∧ FrameEnd U o U' L ({ frames := 0, cells := 0, slots := 0, locals := 0 } : Room).cells ({ frames := 0, cells := 0, slots := 0, locals := 0 } : Room).slots) := by
  refine MetFree.of_bodySF (plainFor_of_name pn_3) hisR ?_
  intro p e s m args below meth c s₁ Bd hml0 hP hK
  obtain ⟨rfl, hZ, hh⟩ := hP
  have hx := Bd.exec
  have hby := Bd.bytes
  have hlk := Bd.notSynchronized
  have hml : c.maxLocals = 7 := hml0
  have hown : s.vm.findClass "com/example/tidemark/tidemark/Quotas" = some m.cls := findClass_of_methodNamed Bd.named
  have hnm := (name_of_methodNamed Bd.named Bd.method).1
  have X0 : Stand p l e ({ frames := 0, cells := 0, slots := 0, locals := 0 } : Room) s m #[(.ref a1), (.long q1), (.long q2), (.long q3)] below meth c s₁ [] 0 0 := Stand.of_body Bd
  have e0 : s₁.heap = h0 := by rw [← hh, Bd.state]; rfl
  have N0 := Fr.nil n0
  show Goes p e below s 0 0 (Q6 Z a1 q1 q2 q3 p1 p2 p3 h0 n0) s₁ (entryFrame m #[(.ref a1), (.long q1), (.long q2), (.long q3)] 7)
  refine goEq (ef_6 m a1 q1 q2 q3) ?_
  refine go (T' := s₁) (g' := (mkF m 1 #[.val (.ref a1), .val (.long q1), .second, .val (.long q2), .second, .val (.long q3), .second] [(.long q1)])) (fun t kt => XS.lloadN X0.here hx rfl (hb hby d6_0) rfl kt) ?_
  refine go (T' := s₁) (g' := (mkF m 2 #[.val (.ref a1), .val (.long q1), .second, .val (.long q2), .second, .val (.long q3), .second] [(.ref a1), (.long q1)])) (fun t kt => XS.aloadN X0.here hx rfl (hb hby d6_1) rfl rfl kt) ?_
  obtain ⟨T6, X6, e6, st6⟩ := getF X0 hx hZ hown (host := "") (Or.inl (hw _ (List.mem_of_getElem? (i := 18) rfl))) Via.refl e0 F0 (g := (mkF m 2 #[.val (.ref a1), .val (.long q1), .second, .val (.long q2), .second, .val (.long q3), .second] [(.ref a1), (.long q1)])) rfl rfl (hb hby d6_2)
  refine go (T' := T6) (g' := (mkF m 5 #[.val (.ref a1), .val (.long q1), .second, .val (.long q2), .second, .val (.long q3), .second] [(.int p1), (.long q1)])) st6 ?_
  refine go (T' := T6) (g' := (mkF m 6 #[.val (.ref a1), .val (.long q1), .second, .val (.long q2), .second, .val (.long q3), .second] [(.long (p1.toInt64)), (.long q1)])) (fun t kt => XS.i2l X6.here hx rfl (hb hby d6_5) rfl kt) ?_
  refine go (T' := T6) (g' := (mkF m 7 #[.val (.ref a1), .val (.long q1), .second, .val (.long q2), .second, .val (.long q3), .second] [(.int (lcmpW q1 (p1.toInt64)))])) (fun t kt => XS.lcmp X6.here hx rfl (hb hby d6_6) rfl kt) ?_
  by_cases hc0 : (p1.toInt64) < q1
  · refine go (T' := T6) (g' := (mkF m 35 #[.val (.ref a1), .val (.long q1), .second, .val (.long q2), .second, .val (.long q3), .second] [])) (fun t kt => XS.ifYes X6.here hx rfl (pc0 := 7) (pc' := 35) rfl (hb hby d6_7) rfl (own_l4 hc0).1 (by decide) (by decide) kt) ?_
    refine go (T' := T6) (g' := (mkF m 36 #[.val (.ref a1), .val (.long q1), .second, .val (.long q2), .second, .val (.long q3), .second] [(.int (0 : Int32))])) (fun t kt => XS.iconst X6.here hx rfl (hb hby d6_35) kt) ?_
    refine goRetN X6 hx hlk (t := .boolean) Bd.returns (by simp) (hb hby d6_36) ?_ (by decide) (by decide)
    rw [e6]
    exact ⟨own_al0 (by simp [hc0]), N0, rfl⟩
  · refine go (T' := T6) (g' := (mkF m 10 #[.val (.ref a1), .val (.long q1), .second, .val (.long q2), .second, .val (.long q3), .second] [])) (fun t kt => XS.ifNo X6.here hx rfl (hb hby d6_7) rfl (own_l5 hc0).1 kt) ?_
    refine go (T' := T6) (g' := (mkF m 11 #[.val (.ref a1), .val (.long q1), .second, .val (.long q2), .second, .val (.long q3), .second] [(.long q2)])) (fun t kt => XS.lloadN X6.here hx rfl (hb hby d6_10) rfl kt) ?_
    refine go (T' := T6) (g' := (mkF m 12 #[.val (.ref a1), .val (.long q1), .second, .val (.long q2), .second, .val (.long q3), .second] [(.ref a1), (.long q2)])) (fun t kt => XS.aloadN X6.here hx rfl (hb hby d6_11) rfl rfl kt) ?_
    obtain ⟨T7, X7, e7, st7⟩ := getF X6 hx hZ hown (host := "") (Or.inl (hw _ (List.mem_of_getElem? (i := 20) rfl))) Via.refl e6 F1 (g := (mkF m 12 #[.val (.ref a1), .val (.long q1), .second, .val (.long q2), .second, .val (.long q3), .second] [(.ref a1), (.long q2)])) rfl rfl (hb hby d6_12)
    refine go (T' := T7) (g' := (mkF m 15 #[.val (.ref a1), .val (.long q1), .second, .val (.long q2), .second, .val (.long q3), .second] [(.int p2), (.long q2)])) st7 ?_
    refine go (T' := T7) (g' := (mkF m 16 #[.val (.ref a1), .val (.long q1), .second, .val (.long q2), .second, .val (.long q3), .second] [(.long (p2.toInt64)), (.long q2)])) (fun t kt => XS.i2l X7.here hx rfl (hb hby d6_15) rfl kt) ?_
    refine go (T' := T7) (g' := (mkF m 17 #[.val (.ref a1), .val (.long q1), .second, .val (.long q2), .second, .val (.long q3), .second] [(.int (lcmpW q2 (p2.toInt64)))])) (fun t kt => XS.lcmp X7.here hx rfl (hb hby d6_16) rfl kt) ?_
    by_cases hc1 : (p2.toInt64) < q2
    · refine go (T' := T7) (g' := (mkF m 35 #[.val (.ref a1), .val (.long q1), .second, .val (.long q2), .second, .val (.long q3), .second] [])) (fun t kt => XS.ifYes X7.here hx rfl (pc0 := 17) (pc' := 35) rfl (hb hby d6_17) rfl (own_l4 hc1).1 (by decide) (by decide) kt) ?_
      refine go (T' := T7) (g' := (mkF m 36 #[.val (.ref a1), .val (.long q1), .second, .val (.long q2), .second, .val (.long q3), .second] [(.int (0 : Int32))])) (fun t kt => XS.iconst X7.here hx rfl (hb hby d6_35) kt) ?_
      refine goRetN X7 hx hlk (t := .boolean) Bd.returns (by simp) (hb hby d6_36) ?_ (by decide) (by decide)
      rw [e7]
      exact ⟨own_al0 (by simp [hc0, hc1]), N0, rfl⟩
    · refine go (T' := T7) (g' := (mkF m 20 #[.val (.ref a1), .val (.long q1), .second, .val (.long q2), .second, .val (.long q3), .second] [])) (fun t kt => XS.ifNo X7.here hx rfl (hb hby d6_17) rfl (own_l5 hc1).1 kt) ?_
      refine go (T' := T7) (g' := (mkF m 22 #[.val (.ref a1), .val (.long q1), .second, .val (.long q2), .second, .val (.long q3), .second] [(.long q3)])) (fun t kt => XS.lload X7.here hx rfl (hb hby d6_20) rfl kt) ?_
      refine go (T' := T7) (g' := (mkF m 23 #[.val (.ref a1), .val (.long q1), .second, .val (.long q2), .second, .val (.long q3), .second] [(.ref a1), (.long q3)])) (fun t kt => XS.aloadN X7.here hx rfl (hb hby d6_22) rfl rfl kt) ?_
      obtain ⟨T8, X8, e8, st8⟩ := getF X7 hx hZ hown (host := "") (Or.inl (hw _ (List.mem_of_getElem? (i := 22) rfl))) Via.refl e7 F2 (g := (mkF m 23 #[.val (.ref a1), .val (.long q1), .second, .val (.long q2), .second, .val (.long q3), .second] [(.ref a1), (.long q3)])) rfl rfl (hb hby d6_23)
      refine go (T' := T8) (g' := (mkF m 26 #[.val (.ref a1), .val (.long q1), .second, .val (.long q2), .second, .val (.long q3), .second] [(.int p3), (.long q3)])) st8 ?_
      refine go (T' := T8) (g' := (mkF m 27 #[.val (.ref a1), .val (.long q1), .second, .val (.long q2), .second, .val (.long q3), .second] [(.long (p3.toInt64)), (.long q3)])) (fun t kt => XS.i2l X8.here hx rfl (hb hby d6_26) rfl kt) ?_
      refine go (T' := T8) (g' := (mkF m 28 #[.val (.ref a1), .val (.long q1), .second, .val (.long q2), .second, .val (.long q3), .second] [(.int (lcmpW q3 (p3.toInt64)))])) (fun t kt => XS.lcmp X8.here hx rfl (hb hby d6_27) rfl kt) ?_
      by_cases hc2 : (p3.toInt64) < q3
      · refine go (T' := T8) (g' := (mkF m 35 #[.val (.ref a1), .val (.long q1), .second, .val (.long q2), .second, .val (.long q3), .second] [])) (fun t kt => XS.ifYes X8.here hx rfl (pc0 := 28) (pc' := 35) rfl (hb hby d6_28) rfl (own_l4 hc2).1 (by decide) (by decide) kt) ?_
        refine go (T' := T8) (g' := (mkF m 36 #[.val (.ref a1), .val (.long q1), .second, .val (.long q2), .second, .val (.long q3), .second] [(.int (0 : Int32))])) (fun t kt => XS.iconst X8.here hx rfl (hb hby d6_35) kt) ?_
        refine goRetN X8 hx hlk (t := .boolean) Bd.returns (by simp) (hb hby d6_36) ?_ (by decide) (by decide)
        rw [e8]
        exact ⟨own_al0 (by simp [hc0, hc1, hc2]), N0, rfl⟩
      · refine go (T' := T8) (g' := (mkF m 31 #[.val (.ref a1), .val (.long q1), .second, .val (.long q2), .second, .val (.long q3), .second] [])) (fun t kt => XS.ifNo X8.here hx rfl (hb hby d6_28) rfl (own_l5 hc2).1 kt) ?_
        refine go (T' := T8) (g' := (mkF m 32 #[.val (.ref a1), .val (.long q1), .second, .val (.long q2), .second, .val (.long q3), .second] [(.int (1 : Int32))])) (fun t kt => XS.iconst X8.here hx rfl (hb hby d6_31) kt) ?_
        refine go (T' := T8) (g' := (mkF m 36 #[.val (.ref a1), .val (.long q1), .second, .val (.long q2), .second, .val (.long q3), .second] [(.int (1 : Int32))])) (fun t kt => XS.goto X8.here hx rfl (pc0 := 32) (pc' := 36) rfl (hb hby d6_32) (by decide) (by decide) kt) ?_
        refine goRetN X8 hx hlk (t := .boolean) Bd.returns (by simp) (hb hby d6_36) ?_ (by decide) (by decide)
        rw [e8]
        exact ⟨own_al1 hc0 hc1 hc2, N0, rfl⟩
theorem d5_0 : decode prog_7_method_5_code 0 = .ok (.aload_n 0, 1) := by decide +kernel
theorem d5_1 : decode prog_7_method_5_code 1 = .ok (.getfield 18, 3) := by decide +kernel
theorem d5_4 : decode prog_7_method_5_code 4 = .ok (.ldc 30, 2) := by decide +kernel
theorem d5_6 : decode prog_7_method_5_code 6 = .ok (.if_icmp .ne 25, 3) := by decide +kernel
theorem d5_9 : decode prog_7_method_5_code 9 = .ok (.aload_n 0, 1) := by decide +kernel
theorem d5_10 : decode prog_7_method_5_code 10 = .ok (.getfield 24, 3) := by decide +kernel
theorem d5_13 : decode prog_7_method_5_code 13 = .ok (.ldc 30, 2) := by decide +kernel
theorem d5_15 : decode prog_7_method_5_code 15 = .ok (.if_icmp .ne 16, 3) := by decide +kernel
theorem d5_18 : decode prog_7_method_5_code 18 = .ok (.aload_n 0, 1) := by decide +kernel
theorem d5_19 : decode prog_7_method_5_code 19 = .ok (.getfield 27, 3) := by decide +kernel
theorem d5_22 : decode prog_7_method_5_code 22 = .ok (.ldc 30, 2) := by decide +kernel
theorem d5_24 : decode prog_7_method_5_code 24 = .ok (.if_icmp .ne 7, 3) := by decide +kernel
theorem d5_27 : decode prog_7_method_5_code 27 = .ok (.iconst 1, 1) := by decide +kernel
theorem d5_28 : decode prog_7_method_5_code 28 = .ok (.goto 4, 3) := by decide +kernel
theorem d5_31 : decode prog_7_method_5_code 31 = .ok (.iconst 0, 1) := by decide +kernel
theorem d5_32 : decode prog_7_method_5_code 32 = .ok (.ireturn, 1) := by decide +kernel
theorem ef_5 (m : MethodId) (a1 : Addr) : entryFrame m #[(.ref a1)] 1 = mkF m 0 #[.val (.ref a1)] [] := by first | (simp [entryFrame, mkF, argsToLocals, Value.category]; done) | rfl
def Q5 (Z : State) (a1 : Addr) (p1 : Int32) (p2 : Int32) (p3 : Int32) (h0 : Heap) (n0 : Nat) (v : Option Value) (h : Heap) (L : List Loc) : Prop := v = some (.int (own_nl p1 p2 p3)) ∧ Fr n0 L ∧ h = h0
set_option maxRecDepth 65536 in
set_option maxHeartbeats 40000000 in
theorem rm5 (l : Launch) (Z : State) (a0 : Array Value) (hw : ∀ d ∈ tables_1, d.before a0 Z = true) (ws : List Jvm.Cond) (a1 : Addr) (p1 : Int32) (p2 : Int32) (p3 : Int32) (h0 : Heap) (n0 : Nat) (Z0 : n0 ≤ h0.size) (F0 : Fld Z h0 a1 "com/example/tidemark/tidemark/Quotas" "maxVcpus" "I" (.int p1)) (F1 : Fld Z h0 a1 "com/example/tidemark/tidemark/Quotas" "maxVms" "I" (.int p2)) (F2 : Fld Z h0 a1 "com/example/tidemark/tidemark/Quotas" "maxVmsPerType" "I" (.int p3)) :
    MetFree l (⟨"com/example/tidemark/tidemark/Quotas", "limitNothing", "()Z"⟩ : MethodName) (head1 (Jvm.Cond.code (⟨"com/example/tidemark/tidemark/Quotas", "limitNothing", "()Z"⟩ : MethodName) prog_7_method_5_code 1 (some .boolean) :: ws) ({ frames := 0, cells := 0, slots := 0, locals := 0 } : Room)) (fun a U => a = #[(.ref a1)] ∧ Z.Warmed39 U.vm ∧ U.heap = h0) (fun _ _ _ _ _ => True) (fun _ U o U' => ∃ v L, o = .returned v ∧ Q5 Z a1 p1 p2 p3 h0 n0 v U'.heap L ∧ FrameEnd U o U' L ({ frames := 0, cells := 0, slots := 0, locals := 0 } : Room).cells ({ frames := 0, cells := 0, slots := 0, locals := 0 } : Room).slots) := by
  refine MetFree.of_bodySF (plainFor_of_name pn_3) hisR ?_
  intro p e s m args below meth c s₁ Bd hml0 hP hK
  obtain ⟨rfl, hZ, hh⟩ := hP
  have hx := Bd.exec
  have hby := Bd.bytes
  have hlk := Bd.notSynchronized
  have hml : c.maxLocals = 1 := hml0
  have hown : s.vm.findClass "com/example/tidemark/tidemark/Quotas" = some m.cls := findClass_of_methodNamed Bd.named
  have hnm := (name_of_methodNamed Bd.named Bd.method).1
  have X0 : Stand p l e ({ frames := 0, cells := 0, slots := 0, locals := 0 } : Room) s m #[(.ref a1)] below meth c s₁ [] 0 0 := Stand.of_body Bd
  have e0 : s₁.heap = h0 := by rw [← hh, Bd.state]; rfl
  have N0 := Fr.nil n0
  show Goes p e below s 0 0 (Q5 Z a1 p1 p2 p3 h0 n0) s₁ (entryFrame m #[(.ref a1)] 1)
  refine goEq (ef_5 m a1) ?_
  refine go (T' := s₁) (g' := (mkF m 1 #[.val (.ref a1)] [(.ref a1)])) (fun t kt => XS.aloadN X0.here hx rfl (hb hby d5_0) rfl rfl kt) ?_
  obtain ⟨T9, X9, e9, st9⟩ := getF X0 hx hZ hown (host := "") (Or.inl (hw _ (List.mem_of_getElem? (i := 18) rfl))) Via.refl e0 F0 (g := (mkF m 1 #[.val (.ref a1)] [(.ref a1)])) rfl rfl (hb hby d5_1)
  refine go (T' := T9) (g' := (mkF m 4 #[.val (.ref a1)] [(.int p1)])) st9 ?_
  refine go (T' := T9) (g' := (mkF m 6 #[.val (.ref a1)] [(.int (2147483647 : Int32)), (.int p1)])) (fun t kt => X9.ldcInt hx hown (mvT hZ (hw _ (List.mem_of_getElem? (i := 29) rfl))) (g := (mkF m 4 #[.val (.ref a1)] [(.int p1)])) rfl (hb hby d5_4) _ kt) ?_
  by_cases hc0 : p1 = (2147483647 : Int32)
  · refine go (T' := T9) (g' := (mkF m 9 #[.val (.ref a1)] [])) (fun t kt => XS.icmpNo X9.here hx rfl (hb hby d5_6) rfl (teq hc0).2 kt) ?_
    refine go (T' := T9) (g' := (mkF m 10 #[.val (.ref a1)] [(.ref a1)])) (fun t kt => XS.aloadN X9.here hx rfl (hb hby d5_9) rfl rfl kt) ?_
    obtain ⟨T10, X10, e10, st10⟩ := getF X9 hx hZ hown (host := "") (Or.inl (hw _ (List.mem_of_getElem? (i := 20) rfl))) Via.refl e9 F1 (g := (mkF m 10 #[.val (.ref a1)] [(.ref a1)])) rfl rfl (hb hby d5_10)
    refine go (T' := T10) (g' := (mkF m 13 #[.val (.ref a1)] [(.int p2)])) st10 ?_
    refine go (T' := T10) (g' := (mkF m 15 #[.val (.ref a1)] [(.int (2147483647 : Int32)), (.int p2)])) (fun t kt => X10.ldcInt hx hown (mvT hZ (hw _ (List.mem_of_getElem? (i := 29) rfl))) (g := (mkF m 13 #[.val (.ref a1)] [(.int p2)])) rfl (hb hby d5_13) _ kt) ?_
    by_cases hc1 : p2 = (2147483647 : Int32)
    · refine go (T' := T10) (g' := (mkF m 18 #[.val (.ref a1)] [])) (fun t kt => XS.icmpNo X10.here hx rfl (hb hby d5_15) rfl (teq hc1).2 kt) ?_
      refine go (T' := T10) (g' := (mkF m 19 #[.val (.ref a1)] [(.ref a1)])) (fun t kt => XS.aloadN X10.here hx rfl (hb hby d5_18) rfl rfl kt) ?_
      obtain ⟨T11, X11, e11, st11⟩ := getF X10 hx hZ hown (host := "") (Or.inl (hw _ (List.mem_of_getElem? (i := 22) rfl))) Via.refl e10 F2 (g := (mkF m 19 #[.val (.ref a1)] [(.ref a1)])) rfl rfl (hb hby d5_19)
      refine go (T' := T11) (g' := (mkF m 22 #[.val (.ref a1)] [(.int p3)])) st11 ?_
      refine go (T' := T11) (g' := (mkF m 24 #[.val (.ref a1)] [(.int (2147483647 : Int32)), (.int p3)])) (fun t kt => X11.ldcInt hx hown (mvT hZ (hw _ (List.mem_of_getElem? (i := 29) rfl))) (g := (mkF m 22 #[.val (.ref a1)] [(.int p3)])) rfl (hb hby d5_22) _ kt) ?_
      by_cases hc2 : p3 = (2147483647 : Int32)
      · refine go (T' := T11) (g' := (mkF m 27 #[.val (.ref a1)] [])) (fun t kt => XS.icmpNo X11.here hx rfl (hb hby d5_24) rfl (teq hc2).2 kt) ?_
        refine go (T' := T11) (g' := (mkF m 28 #[.val (.ref a1)] [(.int (1 : Int32))])) (fun t kt => XS.iconst X11.here hx rfl (hb hby d5_27) kt) ?_
        refine go (T' := T11) (g' := (mkF m 32 #[.val (.ref a1)] [(.int (1 : Int32))])) (fun t kt => XS.goto X11.here hx rfl (pc0 := 28) (pc' := 32) rfl (hb hby d5_28) (by decide) (by decide) kt) ?_
        refine goRetN X11 hx hlk (t := .boolean) Bd.returns (by simp) (hb hby d5_32) ?_ (by decide) (by decide)
        rw [e11]
        exact ⟨by rw [own_nl, if_pos ⟨hc0, hc1, hc2⟩]; rfl, N0, rfl⟩
      · refine go (T' := T11) (g' := (mkF m 31 #[.val (.ref a1)] [])) (fun t kt => XS.icmpYes X11.here hx rfl (pc0 := 24) (pc' := 31) rfl (hb hby d5_24) rfl (feq hc2).2 (by decide) (by decide) kt) ?_
        refine go (T' := T11) (g' := (mkF m 32 #[.val (.ref a1)] [(.int (0 : Int32))])) (fun t kt => XS.iconst X11.here hx rfl (hb hby d5_31) kt) ?_
        refine goRetN X11 hx hlk (t := .boolean) Bd.returns (by simp) (hb hby d5_32) ?_ (by decide) (by decide)
        rw [e11]
        exact ⟨by simp [own_nl, hc2]; rfl, N0, rfl⟩
    · refine go (T' := T10) (g' := (mkF m 31 #[.val (.ref a1)] [])) (fun t kt => XS.icmpYes X10.here hx rfl (pc0 := 15) (pc' := 31) rfl (hb hby d5_15) rfl (feq hc1).2 (by decide) (by decide) kt) ?_
      refine go (T' := T10) (g' := (mkF m 32 #[.val (.ref a1)] [(.int (0 : Int32))])) (fun t kt => XS.iconst X10.here hx rfl (hb hby d5_31) kt) ?_
      refine goRetN X10 hx hlk (t := .boolean) Bd.returns (by simp) (hb hby d5_32) ?_ (by decide) (by decide)
      rw [e10]
      exact ⟨by simp [own_nl, hc1]; rfl, N0, rfl⟩
  · refine go (T' := T9) (g' := (mkF m 31 #[.val (.ref a1)] [])) (fun t kt => XS.icmpYes X9.here hx rfl (pc0 := 6) (pc' := 31) rfl (hb hby d5_6) rfl (feq hc0).2 (by decide) (by decide) kt) ?_
    refine go (T' := T9) (g' := (mkF m 32 #[.val (.ref a1)] [(.int (0 : Int32))])) (fun t kt => XS.iconst X9.here hx rfl (hb hby d5_31) kt) ?_
    refine goRetN X9 hx hlk (t := .boolean) Bd.returns (by simp) (hb hby d5_32) ?_ (by decide) (by decide)
    rw [e9]
    exact ⟨by simp [own_nl, hc0]; rfl, N0, rfl⟩
theorem pd_1 : parseMethodDescriptor "(III)I" = some ⟨[.int, .int, .int], some .int⟩ := by decide +kernel
theorem pd_2 : parseMethodDescriptor "(III)V" = some ⟨[.int, .int, .int], none⟩ := by decide +kernel
theorem pd_3 : parseMethodDescriptor "()Z" = some ⟨[], some .boolean⟩ := by decide +kernel
theorem pd_4 : parseMethodDescriptor "(JJJ)Z" = some ⟨[.long, .long, .long], some .boolean⟩ := by decide +kernel
theorem ef_0 (m : MethodId) (p1 : Int32) (p2 : Int32) (p3 : Int32) (p4 : Int32) : entryFrame m #[(.int p1), (.int p2), (.int p3), (.int p4)] maxLocals = mkF m 0 #[.val (.int p1), .val (.int p2), .val (.int p3), .val (.int p4), .unset, .unset, .unset, .unset, .unset, .unset, .unset] [] := by first | (simp [entryFrame, mkF, argsToLocals, Value.category, maxLocals]; done) | rfl
def Q0 (Z : State) (p1 : Int32) (p2 : Int32) (p3 : Int32) (p4 : Int32) (h0 : Heap) (n0 : Nat) (v : Option Value) (h : Heap) (L : List Loc) : Prop := v = some (.int 1) ∧ Fr n0 L
set_option maxRecDepth 65536 in
set_option maxHeartbeats 40000000 in
theorem rm0 (l : Launch) (Z : State) (a0 : Array Value) (hw : ∀ d ∈ tables_1, d.before a0 Z = true) (ws : List Jvm.Cond) (p1 : Int32) (p2 : Int32) (p3 : Int32) (p4 : Int32) (h0 : Heap) (n0 : Nat) (Z0 : n0 ≤ h0.size)  :
    MetFree l x (head1 (Jvm.Cond.code x code maxLocals ret :: ws) room_1) (fun a U => a = #[(.int p1), (.int p2), (.int p3), (.int p4)] ∧ Z.Warmed39 U.vm ∧ U.heap = h0) (fun _ _ _ _ _ => True) (fun _ U o U' => ∃ v L, o = .returned v ∧ Q0 Z p1 p2 p3 p4 h0 n0 v U'.heap L ∧ FrameEnd U o U' L 1 3) := by
  refine MetFree.of_bodySF (plainFor_of_name pn_1) hisR ?_
  intro p e s m args below meth c s₁ Bd hml0 hP hK
  obtain ⟨rfl, hZ, hh⟩ := hP
  have hx := Bd.exec
  have hby := Bd.bytes
  have hlk := Bd.notSynchronized
  have hml : c.maxLocals = 11 := hml0
  have hown : s.vm.findClass "com/example/tidemark/tidemark/QuotasLimitNothingPinLaw" = some m.cls := findClass_of_methodNamed Bd.named
  have hnm := (name_of_methodNamed Bd.named Bd.method).1
  have X0 : Stand p l e room_1 s m #[(.int p1), (.int p2), (.int p3), (.int p4)] below meth c s₁ [] 0 0 := Stand.of_body Bd
  have e0 : s₁.heap = h0 := by rw [← hh, Bd.state]; rfl
  have N0 := Fr.nil n0
  show Goes p e below s 1 3 (Q0 Z p1 p2 p3 p4 h0 n0) s₁ (entryFrame m #[(.int p1), (.int p2), (.int p3), (.int p4)] maxLocals)
  refine goEq (ef_0 m p1 p2 p3 p4) ?_
  refine go (T' := s₁) (g' := (mkF m 1 #[.val (.int p1), .val (.int p2), .val (.int p3), .val (.int p4), .unset, .unset, .unset, .unset, .unset, .unset, .unset] [(.int p1)])) (fun t kt => XS.iloadN X0.here hx rfl (hb hby at_0) rfl kt) ?_
  refine go (T' := s₁) (g' := (mkF m 2 #[.val (.int p1), .val (.int p2), .val (.int p3), .val (.int p4), .unset, .unset, .unset, .unset, .unset, .unset, .unset] [(.int (0 : Int32)), (.int p1)])) (fun t kt => XS.iconst X0.here hx rfl (hb hby at_1) kt) ?_
  refine go (T' := s₁) (g' := (mkF m 3 #[.val (.int p1), .val (.int p2), .val (.int p3), .val (.int p4), .unset, .unset, .unset, .unset, .unset, .unset, .unset] [(.int p2), (.int (0 : Int32)), (.int p1)])) (fun t kt => XS.iloadN X0.here hx rfl (hb hby at_2) rfl kt) ?_
  obtain ⟨_, _, ⟨T12, L12, k12, n12⟩, -, X12, ⟨Lc12, hQ12, l12, y12, z12⟩, st12⟩ := Jvm.LawKit.callS X0 hx (y := (⟨"com/example/tidemark/tidemark/QuotasLimitNothingPinLaw", "limit", "(III)I"⟩ : MethodName)) hown (mvT hZ (hw _ (List.mem_of_getElem? (i := 0) rfl))) (mvT hZ (hw _ (List.mem_of_getElem? (i := 1) rfl))) (mvT hZ (hw _ (List.mem_of_getElem? (i := 2) rfl))) (mvT hZ (hw _ (List.mem_of_getElem? (i := 3) rfl))) (by decide) (backOf (W := 0) (rm1 l Z a0 hw [] p1 0 p2 h0 n0 Z0) hZ (hw _ (List.mem_of_getElem? (i := 3) rfl)) (hw _ (List.mem_of_getElem? (i := 2) rfl)) (by decide) (by decide)) (g := (mkF m 3 #[.val (.int p1), .val (.int p2), .val (.int p3), .val (.int p4), .unset, .unset, .unset, .unset, .unset, .unset, .unset] [(.int p2), (.int (0 : Int32)), (.int p1)])) rfl (by rw [hml]; rfl) (argsL := [(.int p1), (.int (0 : Int32)), (.int p2)]) (rest := []) (lenOf pd_1 rfl) rfl (by show 2 * 0 + _ ≤ _; exact Nat.le_of_eq rfl) (hb hby at_3) (fun _ _ => ⟨rfl, e0, (by decide : 0 + 0 ≤ _), (by decide : 0 + 0 ≤ _)⟩)
  dsimp only [Pt.U, Pt.locs, Pt.cells, Pt.slots] at X12 l12 y12 z12 st12 hQ12
  subst l12 y12 z12
  obtain ⟨rfl, N12q, e12⟩ := hQ12
  have N12 := Fr.app N0 N12q
  refine go (T' := T12) (g' := (mkF m 6 #[.val (.int p1), .val (.int p2), .val (.int p3), .val (.int p4), .unset, .unset, .unset, .unset, .unset, .unset, .unset] [(.int (own_lim p1 0 p2))])) st12 ?_
  obtain ⟨m1, e_m1⟩ : ∃ z, z = (own_lim p1 0 p2) := ⟨_, rfl⟩
  refine goEq (g' := (mkF m 6 #[.val (.int p1), .val (.int p2), .val (.int p3), .val (.int p4), .unset, .unset, .unset, .unset, .unset, .unset, .unset] [(.int m1)])) (by rw [e_m1]) ?_
  have km1 : ¬ m1 < 1 := by rw [e_m1]; exact own_lim1 _ _ _
  refine go (T' := T12) (g' := (mkF m 8 #[.val (.int p1), .val (.int p2), .val (.int p3), .val (.int p4), .val (.int m1), .unset, .unset, .unset, .unset, .unset, .unset] [])) (fun t kt => XS.istore X12.here hx rfl (hb hby at_6) rfl (l' := #[.val (.int p1), .val (.int p2), .val (.int p3), .val (.int p4), .val (.int m1), .unset, .unset, .unset, .unset, .unset, .unset]) rfl kt) ?_
  refine go (T' := T12) (g' := (mkF m 9 #[.val (.int p1), .val (.int p2), .val (.int p3), .val (.int p4), .val (.int m1), .unset, .unset, .unset, .unset, .unset, .unset] [(.int p1)])) (fun t kt => XS.iloadN X12.here hx rfl (hb hby at_8) rfl kt) ?_
  refine go (T' := T12) (g' := (mkF m 10 #[.val (.int p1), .val (.int p2), .val (.int p3), .val (.int p4), .val (.int m1), .unset, .unset, .unset, .unset, .unset, .unset] [(.int (1 : Int32)), (.int p1)])) (fun t kt => XS.iconst X12.here hx rfl (hb hby at_9) kt) ?_
  refine go (T' := T12) (g' := (mkF m 11 #[.val (.int p1), .val (.int p2), .val (.int p3), .val (.int p4), .val (.int m1), .unset, .unset, .unset, .unset, .unset, .unset] [(.int p3), (.int (1 : Int32)), (.int p1)])) (fun t kt => XS.iloadN X12.here hx rfl (hb hby at_10) rfl kt) ?_
  obtain ⟨_, _, ⟨T13, L13, k13, n13⟩, -, X13, ⟨Lc13, hQ13, l13, y13, z13⟩, st13⟩ := Jvm.LawKit.callS X12 hx (y := (⟨"com/example/tidemark/tidemark/QuotasLimitNothingPinLaw", "limit", "(III)I"⟩ : MethodName)) hown (mvT hZ (hw _ (List.mem_of_getElem? (i := 0) rfl))) (mvT hZ (hw _ (List.mem_of_getElem? (i := 1) rfl))) (mvT hZ (hw _ (List.mem_of_getElem? (i := 2) rfl))) (mvT hZ (hw _ (List.mem_of_getElem? (i := 3) rfl))) (by decide) (backOf (W := 0) (rm1 l Z a0 hw [] p1 1 p3 h0 n0 Z0) hZ (hw _ (List.mem_of_getElem? (i := 3) rfl)) (hw _ (List.mem_of_getElem? (i := 2) rfl)) (by decide) (by decide)) (g := (mkF m 11 #[.val (.int p1), .val (.int p2), .val (.int p3), .val (.int p4), .val (.int m1), .unset, .unset, .unset, .unset, .unset, .unset] [(.int p3), (.int (1 : Int32)), (.int p1)])) rfl (by rw [hml]; rfl) (argsL := [(.int p1), (.int (1 : Int32)), (.int p3)]) (rest := []) (lenOf pd_1 rfl) rfl (by show 2 * 0 + _ ≤ _; exact Nat.le_of_eq rfl) (hb hby at_11) (fun _ _ => ⟨rfl, e12, (by decide : 0 + 0 ≤ _), (by decide : 0 + 0 ≤ _)⟩)
  dsimp only [Pt.U, Pt.locs, Pt.cells, Pt.slots] at X13 l13 y13 z13 st13 hQ13
  subst l13 y13 z13
  obtain ⟨rfl, N13q, e13⟩ := hQ13
  have N13 := Fr.app N12 N13q
  refine go (T' := T13) (g' := (mkF m 14 #[.val (.int p1), .val (.int p2), .val (.int p3), .val (.int p4), .val (.int m1), .unset, .unset, .unset, .unset, .unset, .unset] [(.int (own_lim p1 1 p3))])) st13 ?_
  obtain ⟨m2, e_m2⟩ : ∃ z, z = (own_lim p1 1 p3) := ⟨_, rfl⟩
  refine goEq (g' := (mkF m 14 #[.val (.int p1), .val (.int p2), .val (.int p3), .val (.int p4), .val (.int m1), .unset, .unset, .unset, .unset, .unset, .unset] [(.int m2)])) (by rw [e_m2]) ?_
  have km2 : ¬ m2 < 1 := by rw [e_m2]; exact own_lim1 _ _ _
  refine go (T' := T13) (g' := (mkF m 16 #[.val (.int p1), .val (.int p2), .val (.int p3), .val (.int p4), .val (.int m1), .val (.int m2), .unset, .unset, .unset, .unset, .unset] [])) (fun t kt => XS.istore X13.here hx rfl (hb hby at_14) rfl (l' := #[.val (.int p1), .val (.int p2), .val (.int p3), .val (.int p4), .val (.int m1), .val (.int m2), .unset, .unset, .unset, .unset, .unset]) rfl kt) ?_
  refine go (T' := T13) (g' := (mkF m 17 #[.val (.int p1), .val (.int p2), .val (.int p3), .val (.int p4), .val (.int m1), .val (.int m2), .unset, .unset, .unset, .unset, .unset] [(.int p1)])) (fun t kt => XS.iloadN X13.here hx rfl (hb hby at_16) rfl kt) ?_
  refine go (T' := T13) (g' := (mkF m 18 #[.val (.int p1), .val (.int p2), .val (.int p3), .val (.int p4), .val (.int m1), .val (.int m2), .unset, .unset, .unset, .unset, .unset] [(.int (2 : Int32)), (.int p1)])) (fun t kt => XS.iconst X13.here hx rfl (hb hby at_17) kt) ?_
  refine go (T' := T13) (g' := (mkF m 19 #[.val (.int p1), .val (.int p2), .val (.int p3), .val (.int p4), .val (.int m1), .val (.int m2), .unset, .unset, .unset, .unset, .unset] [(.int p4), (.int (2 : Int32)), (.int p1)])) (fun t kt => XS.iloadN X13.here hx rfl (hb hby at_18) rfl kt) ?_
  obtain ⟨_, _, ⟨T14, L14, k14, n14⟩, -, X14, ⟨Lc14, hQ14, l14, y14, z14⟩, st14⟩ := Jvm.LawKit.callS X13 hx (y := (⟨"com/example/tidemark/tidemark/QuotasLimitNothingPinLaw", "limit", "(III)I"⟩ : MethodName)) hown (mvT hZ (hw _ (List.mem_of_getElem? (i := 0) rfl))) (mvT hZ (hw _ (List.mem_of_getElem? (i := 1) rfl))) (mvT hZ (hw _ (List.mem_of_getElem? (i := 2) rfl))) (mvT hZ (hw _ (List.mem_of_getElem? (i := 3) rfl))) (by decide) (backOf (W := 0) (rm1 l Z a0 hw [] p1 2 p4 h0 n0 Z0) hZ (hw _ (List.mem_of_getElem? (i := 3) rfl)) (hw _ (List.mem_of_getElem? (i := 2) rfl)) (by decide) (by decide)) (g := (mkF m 19 #[.val (.int p1), .val (.int p2), .val (.int p3), .val (.int p4), .val (.int m1), .val (.int m2), .unset, .unset, .unset, .unset, .unset] [(.int p4), (.int (2 : Int32)), (.int p1)])) rfl (by rw [hml]; rfl) (argsL := [(.int p1), (.int (2 : Int32)), (.int p4)]) (rest := []) (lenOf pd_1 rfl) rfl (by show 2 * 0 + _ ≤ _; exact Nat.le_of_eq rfl) (hb hby at_19) (fun _ _ => ⟨rfl, e13, (by decide : 0 + 0 ≤ _), (by decide : 0 + 0 ≤ _)⟩)
  dsimp only [Pt.U, Pt.locs, Pt.cells, Pt.slots] at X14 l14 y14 z14 st14 hQ14
  subst l14 y14 z14
  obtain ⟨rfl, N14q, e14⟩ := hQ14
  have N14 := Fr.app N13 N14q
  refine go (T' := T14) (g' := (mkF m 22 #[.val (.int p1), .val (.int p2), .val (.int p3), .val (.int p4), .val (.int m1), .val (.int m2), .unset, .unset, .unset, .unset, .unset] [(.int (own_lim p1 2 p4))])) st14 ?_
  obtain ⟨m3, e_m3⟩ : ∃ z, z = (own_lim p1 2 p4) := ⟨_, rfl⟩
  refine goEq (g' := (mkF m 22 #[.val (.int p1), .val (.int p2), .val (.int p3), .val (.int p4), .val (.int m1), .val (.int m2), .unset, .unset, .unset, .unset, .unset] [(.int m3)])) (by rw [e_m3]) ?_
  have km3 : ¬ m3 < 1 := by rw [e_m3]; exact own_lim1 _ _ _
  refine go (T' := T14) (g' := (mkF m 24 #[.val (.int p1), .val (.int p2), .val (.int p3), .val (.int p4), .val (.int m1), .val (.int m2), .val (.int m3), .unset, .unset, .unset, .unset] [])) (fun t kt => XS.istore X14.here hx rfl (hb hby at_22) rfl (l' := #[.val (.int p1), .val (.int p2), .val (.int p3), .val (.int p4), .val (.int m1), .val (.int m2), .val (.int m3), .unset, .unset, .unset, .unset]) rfl kt) ?_
  obtain ⟨T15, h15, X15, e15, E15, A15, D15, -, st15⟩ := newO X14 hx hZ hown (hw _ (List.mem_of_getElem? (i := 9) rfl)) (hw _ (List.mem_of_getElem? (i := 10) rfl)) (hw _ (List.mem_of_getElem? (i := 11) rfl)) e14 (g := (mkF m 24 #[.val (.int p1), .val (.int p2), .val (.int p3), .val (.int p4), .val (.int m1), .val (.int m2), .val (.int m3), .unset, .unset, .unset, .unset] [])) rfl (hb hby at_24) (by decide) (by decide)
  obtain ⟨bq, g15⟩ : ∃ z, z = h0.size := ⟨_, rfl⟩
  rw [← g15] at A15 D15 st15
  have g_bq : n0 ≤ bq := Nat.le_trans Z0 (Nat.le_of_eq g15.symm)
  have z15 : n0 ≤ h15.size := Nat.le_trans Z0 E15.1
  have F_maxVcpus_bq : Fld Z h15 bq "com/example/tidemark/tidemark/Quotas" "maxVcpus" "I" (.int (0 : Int32)) := D15 (Or.inr (hw _ (List.mem_of_getElem? (i := 19) rfl))) (ty := .int) (by decide)
  have F_maxVms_bq : Fld Z h15 bq "com/example/tidemark/tidemark/Quotas" "maxVms" "I" (.int (0 : Int32)) := D15 (Or.inr (hw _ (List.mem_of_getElem? (i := 21) rfl))) (ty := .int) (by decide)
  have F_maxVmsPerType_bq : Fld Z h15 bq "com/example/tidemark/tidemark/Quotas" "maxVmsPerType" "I" (.int (0 : Int32)) := D15 (Or.inr (hw _ (List.mem_of_getElem? (i := 23) rfl))) (ty := .int) (by decide)
  refine go (T' := T15) (g' := (mkF m 27 #[.val (.int p1), .val (.int p2), .val (.int p3), .val (.int p4), .val (.int m1), .val (.int m2), .val (.int m3), .unset, .unset, .unset, .unset] [(.ref bq)])) st15 ?_
  refine go (T' := T15) (g' := (mkF m 28 #[.val (.int p1), .val (.int p2), .val (.int p3), .val (.int p4), .val (.int m1), .val (.int m2), .val (.int m3), .unset, .unset, .unset, .unset] [(.ref bq), (.ref bq)])) (fun t kt => XS.dup X15.here hx rfl (hb hby at_27) rfl rfl kt) ?_
  refine go (T' := T15) (g' := (mkF m 30 #[.val (.int p1), .val (.int p2), .val (.int p3), .val (.int p4), .val (.int m1), .val (.int m2), .val (.int m3), .unset, .unset, .unset, .unset] [(.int m1), (.ref bq), (.ref bq)])) (fun t kt => XS.iload X15.here hx rfl (hb hby at_28) rfl kt) ?_
  refine go (T' := T15) (g' := (mkF m 32 #[.val (.int p1), .val (.int p2), .val (.int p3), .val (.int p4), .val (.int m1), .val (.int m2), .val (.int m3), .unset, .unset, .unset, .unset] [(.int m2), (.int m1), (.ref bq), (.ref bq)])) (fun t kt => XS.iload X15.here hx rfl (hb hby at_30) rfl kt) ?_
  refine go (T' := T15) (g' := (mkF m 34 #[.val (.int p1), .val (.int p2), .val (.int p3), .val (.int p4), .val (.int m1), .val (.int m2), .val (.int m3), .unset, .unset, .unset, .unset] [(.int m3), (.int m2), (.int m1), (.ref bq), (.ref bq)])) (fun t kt => XS.iload X15.here hx rfl (hb hby at_32) rfl kt) ?_
  obtain ⟨_, _, ⟨T16, L16, k16, n16⟩, -, X16, ⟨Lc16, hQ16, l16, y16, z16⟩, st16⟩ := X15.specialBack hx (y := (⟨"com/example/tidemark/tidemark/Quotas", "<init>", "(III)V"⟩ : MethodName)) rfl hown (mvT hZ (hw _ (List.mem_of_getElem? (i := 12) rfl))) (mvT hZ (hw _ (List.mem_of_getElem? (i := 13) rfl))) (mvT hZ (hw _ (List.mem_of_getElem? (i := 14) rfl))) (by decide) (backOf (W := 1) (rm3 l Z a0 hw [] bq m1 m2 m3 h15 n0 z15 g_bq A15 F_maxVcpus_bq F_maxVms_bq F_maxVmsPerType_bq km1 km2 km3) hZ (hw _ (List.mem_of_getElem? (i := 14) rfl)) (hw _ (List.mem_of_getElem? (i := 11) rfl)) (by decide) (by decide)) (g := (mkF m 34 #[.val (.int p1), .val (.int p2), .val (.int p3), .val (.int p4), .val (.int m1), .val (.int m2), .val (.int m3), .unset, .unset, .unset, .unset] [(.int m3), (.int m2), (.int m1), (.ref bq), (.ref bq)])) rfl (by rw [hml]; rfl) (Steps.refl _) (a := bq) (argsL := [(.int m1), (.int m2), (.int m3)]) (rest := [(.ref bq)]) (lenOf pd_2 rfl) rfl (by show 2 * 0 + _ ≤ _; exact Nat.le_of_eq rfl) (hb hby at_34) (fun _ _ => ⟨rfl, e15, (by decide : 1 + 0 ≤ _), (by decide : 3 + 0 ≤ _)⟩)
  dsimp only [Pt.U, Pt.locs, Pt.cells, Pt.slots] at X16 l16 y16 z16 st16 hQ16
  subst l16 y16 z16
  obtain ⟨rfl, N16q, K16, F16a, F16b, F16c⟩ := hQ16
  have N16 := Fr.app N14 N16q
  refine goV (T' := T16) (g' := (mkF m 37 #[.val (.int p1), .val (.int p2), .val (.int p3), .val (.int p4), .val (.int m1), .val (.int m2), .val (.int m3), .unset, .unset, .unset, .unset] [(.ref bq)])) st16 ?_
  have z16 : n0 ≤ T16.heap.size := Nat.le_trans z15 K16.1
  have fE_bq_16 : Exa Z T16.heap bq "com/example/tidemark/tidemark/Quotas" := A15.keep K16
  refine go (T' := T16) (g' := (mkF m 39 #[.val (.int p1), .val (.int p2), .val (.int p3), .val (.int p4), .val (.int m1), .val (.int m2), .val (.int m3), .val (.ref bq), .unset, .unset, .unset] [])) (fun t kt => XS.astore X16.here hx rfl (hb hby at_37) rfl rfl (l' := #[.val (.int p1), .val (.int p2), .val (.int p3), .val (.int p4), .val (.int m1), .val (.int m2), .val (.int m3), .val (.ref bq), .unset, .unset, .unset]) rfl kt) ?_
  refine goVia (T₂ := T16) (g₂ := (mkF m 65 #[.val (.int p1), .val (.int p2), .val (.int p3), .val (.int p4), .val (.int m1), .val (.int m2), .val (.int m3), .val (.ref bq), .unset, .unset, .unset] [(.int (own_nl m1 m2 m3))])) (fun kV => ?_) ?_
  · refine go (T' := T16) (g' := (mkF m 41 #[.val (.int p1), .val (.int p2), .val (.int p3), .val (.int p4), .val (.int m1), .val (.int m2), .val (.int m3), .val (.ref bq), .unset, .unset, .unset] [(.int m1)])) (fun t kt => XS.iload X16.here hx rfl (hb hby at_39) rfl kt) ?_
    refine go (T' := T16) (g' := (mkF m 43 #[.val (.int p1), .val (.int p2), .val (.int p3), .val (.int p4), .val (.int m1), .val (.int m2), .val (.int m3), .val (.ref bq), .unset, .unset, .unset] [(.int (2147483647 : Int32)), (.int m1)])) (fun t kt => X16.ldcInt hx hown (mvT hZ (hw _ (List.mem_of_getElem? (i := 4) rfl))) (g := (mkF m 41 #[.val (.int p1), .val (.int p2), .val (.int p3), .val (.int p4), .val (.int m1), .val (.int m2), .val (.int m3), .val (.ref bq), .unset, .unset, .unset] [(.int m1)])) rfl (hb hby at_41) _ kt) ?_
    by_cases hk0 : m1 = (2147483647 : Int32)
    · refine go (T' := T16) (g' := (mkF m 46 #[.val (.int p1), .val (.int p2), .val (.int p3), .val (.int p4), .val (.int m1), .val (.int m2), .val (.int m3), .val (.ref bq), .unset, .unset, .unset] [])) (fun t kt => XS.icmpNo X16.here hx rfl (hb hby at_43) rfl (teq hk0).2 kt) ?_
      refine go (T' := T16) (g' := (mkF m 48 #[.val (.int p1), .val (.int p2), .val (.int p3), .val (.int p4), .val (.int m1), .val (.int m2), .val (.int m3), .val (.ref bq), .unset, .unset, .unset] [(.int m2)])) (fun t kt => XS.iload X16.here hx rfl (hb hby at_46) rfl kt) ?_
      refine go (T' := T16) (g' := (mkF m 50 #[.val (.int p1), .val (.int p2), .val (.int p3), .val (.int p4), .val (.int m1), .val (.int m2), .val (.int m3), .val (.ref bq), .unset, .unset, .unset] [(.int (2147483647 : Int32)), (.int m2)])) (fun t kt => X16.ldcInt hx hown (mvT hZ (hw _ (List.mem_of_getElem? (i := 4) rfl))) (g := (mkF m 48 #[.val (.int p1), .val (.int p2), .val (.int p3), .val (.int p4), .val (.int m1), .val (.int m2), .val (.int m3), .val (.ref bq), .unset, .unset, .unset] [(.int m2)])) rfl (hb hby at_48) _ kt) ?_
      by_cases hk1 : m2 = (2147483647 : Int32)
      · refine go (T' := T16) (g' := (mkF m 53 #[.val (.int p1), .val (.int p2), .val (.int p3), .val (.int p4), .val (.int m1), .val (.int m2), .val (.int m3), .val (.ref bq), .unset, .unset, .unset] [])) (fun t kt => XS.icmpNo X16.here hx rfl (hb hby at_50) rfl (teq hk1).2 kt) ?_
        refine go (T' := T16) (g' := (mkF m 55 #[.val (.int p1), .val (.int p2), .val (.int p3), .val (.int p4), .val (.int m1), .val (.int m2), .val (.int m3), .val (.ref bq), .unset, .unset, .unset] [(.int m3)])) (fun t kt => XS.iload X16.here hx rfl (hb hby at_53) rfl kt) ?_
        refine go (T' := T16) (g' := (mkF m 57 #[.val (.int p1), .val (.int p2), .val (.int p3), .val (.int p4), .val (.int m1), .val (.int m2), .val (.int m3), .val (.ref bq), .unset, .unset, .unset] [(.int (2147483647 : Int32)), (.int m3)])) (fun t kt => X16.ldcInt hx hown (mvT hZ (hw _ (List.mem_of_getElem? (i := 4) rfl))) (g := (mkF m 55 #[.val (.int p1), .val (.int p2), .val (.int p3), .val (.int p4), .val (.int m1), .val (.int m2), .val (.int m3), .val (.ref bq), .unset, .unset, .unset] [(.int m3)])) rfl (hb hby at_55) _ kt) ?_
        by_cases hk2 : m3 = (2147483647 : Int32)
        · refine go (T' := T16) (g' := (mkF m 60 #[.val (.int p1), .val (.int p2), .val (.int p3), .val (.int p4), .val (.int m1), .val (.int m2), .val (.int m3), .val (.ref bq), .unset, .unset, .unset] [])) (fun t kt => XS.icmpNo X16.here hx rfl (hb hby at_57) rfl (teq hk2).2 kt) ?_
          refine go (T' := T16) (g' := (mkF m 61 #[.val (.int p1), .val (.int p2), .val (.int p3), .val (.int p4), .val (.int m1), .val (.int m2), .val (.int m3), .val (.ref bq), .unset, .unset, .unset] [(.int (1 : Int32))])) (fun t kt => XS.iconst X16.here hx rfl (hb hby at_60) kt) ?_
          refine go (T' := T16) (g' := (mkF m 65 #[.val (.int p1), .val (.int p2), .val (.int p3), .val (.int p4), .val (.int m1), .val (.int m2), .val (.int m3), .val (.ref bq), .unset, .unset, .unset] [(.int (1 : Int32))])) (fun t kt => XS.goto X16.here hx rfl (pc0 := 61) (pc' := 65) rfl (hb hby at_61) (by decide) (by decide) kt) ?_
          exact goEq (by rw [own_nl, if_pos ⟨hk0, hk1, hk2⟩]) kV
        · refine go (T' := T16) (g' := (mkF m 64 #[.val (.int p1), .val (.int p2), .val (.int p3), .val (.int p4), .val (.int m1), .val (.int m2), .val (.int m3), .val (.ref bq), .unset, .unset, .unset] [])) (fun t kt => XS.icmpYes X16.here hx rfl (pc0 := 57) (pc' := 64) rfl (hb hby at_57) rfl (feq hk2).2 (by decide) (by decide) kt) ?_
          refine go (T' := T16) (g' := (mkF m 65 #[.val (.int p1), .val (.int p2), .val (.int p3), .val (.int p4), .val (.int m1), .val (.int m2), .val (.int m3), .val (.ref bq), .unset, .unset, .unset] [(.int (0 : Int32))])) (fun t kt => XS.iconst X16.here hx rfl (hb hby at_64) kt) ?_
          exact goEq (by simp [own_nl, hk2]) kV
      · refine go (T' := T16) (g' := (mkF m 64 #[.val (.int p1), .val (.int p2), .val (.int p3), .val (.int p4), .val (.int m1), .val (.int m2), .val (.int m3), .val (.ref bq), .unset, .unset, .unset] [])) (fun t kt => XS.icmpYes X16.here hx rfl (pc0 := 50) (pc' := 64) rfl (hb hby at_50) rfl (feq hk1).2 (by decide) (by decide) kt) ?_
        refine go (T' := T16) (g' := (mkF m 65 #[.val (.int p1), .val (.int p2), .val (.int p3), .val (.int p4), .val (.int m1), .val (.int m2), .val (.int m3), .val (.ref bq), .unset, .unset, .unset] [(.int (0 : Int32))])) (fun t kt => XS.iconst X16.here hx rfl (hb hby at_64) kt) ?_
        exact goEq (by simp [own_nl, hk1]) kV
    · refine go (T' := T16) (g' := (mkF m 64 #[.val (.int p1), .val (.int p2), .val (.int p3), .val (.int p4), .val (.int m1), .val (.int m2), .val (.int m3), .val (.ref bq), .unset, .unset, .unset] [])) (fun t kt => XS.icmpYes X16.here hx rfl (pc0 := 43) (pc' := 64) rfl (hb hby at_43) rfl (feq hk0).2 (by decide) (by decide) kt) ?_
      refine go (T' := T16) (g' := (mkF m 65 #[.val (.int p1), .val (.int p2), .val (.int p3), .val (.int p4), .val (.int m1), .val (.int m2), .val (.int m3), .val (.ref bq), .unset, .unset, .unset] [(.int (0 : Int32))])) (fun t kt => XS.iconst X16.here hx rfl (hb hby at_64) kt) ?_
      exact goEq (by simp [own_nl, hk0]) kV
  · refine go (T' := T16) (g' := (mkF m 67 #[.val (.int p1), .val (.int p2), .val (.int p3), .val (.int p4), .val (.int m1), .val (.int m2), .val (.int m3), .val (.ref bq), .val (.int (own_nl m1 m2 m3)), .unset, .unset] [])) (fun t kt => XS.istore X16.here hx rfl (hb hby at_65) rfl (l' := #[.val (.int p1), .val (.int p2), .val (.int p3), .val (.int p4), .val (.int m1), .val (.int m2), .val (.int m3), .val (.ref bq), .val (.int (own_nl m1 m2 m3)), .unset, .unset]) rfl kt) ?_
    refine go (T' := T16) (g' := (mkF m 69 #[.val (.int p1), .val (.int p2), .val (.int p3), .val (.int p4), .val (.int m1), .val (.int m2), .val (.int m3), .val (.ref bq), .val (.int (own_nl m1 m2 m3)), .unset, .unset] [(.ref bq)])) (fun t kt => XS.aload X16.here hx rfl (hb hby at_67) rfl rfl kt) ?_
    obtain ⟨cq17, kq17, q17a, q17b, q17c⟩ := isOf hZ rfl fE_bq_16
    obtain ⟨_, _, ⟨T17, L17, k17, n17⟩, -, X17, ⟨Lc17, hQ17, l17, y17, z17⟩, st17⟩ := X16.virtualBack hx (y := (⟨"com/example/tidemark/tidemark/Quotas", "limitNothing", "()Z"⟩ : MethodName)) (z := (⟨"com/example/tidemark/tidemark/Quotas", "limitNothing", "()Z"⟩ : MethodName)) hown (mvT hZ (hw _ (List.mem_of_getElem? (i := 24) rfl))) (mvT hZ (hw _ (List.mem_of_getElem? (i := 25) rfl))) (notFace_of_selects (args := #[]) (mvT hZ (hw _ (List.mem_of_getElem? (i := 27) rfl)))) (mvT hZ (hw _ (List.mem_of_getElem? (i := 27) rfl))) (mvT hZ (hw _ (List.mem_of_getElem? (i := 26) rfl))) (by decide) (backOf (W := 0) (rm5 l Z a0 hw [] bq m1 m2 m3 T16.heap n0 z16 F16a F16b F16c) hZ (hw _ (List.mem_of_getElem? (i := 28) rfl)) (hw _ (List.mem_of_getElem? (i := 11) rfl)) (by decide) (by decide)) q17a q17c (g := (mkF m 69 #[.val (.int p1), .val (.int p2), .val (.int p3), .val (.int p4), .val (.int m1), .val (.int m2), .val (.int m3), .val (.ref bq), .val (.int (own_nl m1 m2 m3)), .unset, .unset] [(.ref bq)])) rfl (by rw [hml]; rfl) (Steps.refl _) (argsL := []) (rest := []) (lenOf pd_3 rfl) rfl (by show 2 * 0 + _ ≤ _; exact Nat.le_of_eq rfl) (hb hby at_69) (fun _ _ => ⟨rfl, rfl, (by decide : 1 + 0 ≤ _), (by decide : 3 + 0 ≤ _)⟩)
    dsimp only [Pt.U, Pt.locs, Pt.cells, Pt.slots] at X17 l17 y17 z17 st17 hQ17
    subst l17 y17 z17
    obtain ⟨rfl, N17q, e17⟩ := hQ17
    have N17 := Fr.app N16 N17q
    refine goV (T' := T17) (g' := (mkF m 72 #[.val (.int p1), .val (.int p2), .val (.int p3), .val (.int p4), .val (.int m1), .val (.int m2), .val (.int m3), .val (.ref bq), .val (.int (own_nl m1 m2 m3)), .unset, .unset] [(.int (own_nl m1 m2 m3))])) st17 ?_
    refine go (T' := T17) (g' := (mkF m 74 #[.val (.int p1), .val (.int p2), .val (.int p3), .val (.int p4), .val (.int m1), .val (.int m2), .val (.int m3), .val (.ref bq), .val (.int (own_nl m1 m2 m3)), .val (.int (own_nl m1 m2 m3)), .unset] [])) (fun t kt => XS.istore X17.here hx rfl (hb hby at_72) rfl (l' := #[.val (.int p1), .val (.int p2), .val (.int p3), .val (.int p4), .val (.int m1), .val (.int m2), .val (.int m3), .val (.ref bq), .val (.int (own_nl m1 m2 m3)), .val (.int (own_nl m1 m2 m3)), .unset]) rfl kt) ?_
    refine go (T' := T17) (g' := (mkF m 76 #[.val (.int p1), .val (.int p2), .val (.int p3), .val (.int p4), .val (.int m1), .val (.int m2), .val (.int m3), .val (.ref bq), .val (.int (own_nl m1 m2 m3)), .val (.int (own_nl m1 m2 m3)), .unset] [(.ref bq)])) (fun t kt => XS.aload X17.here hx rfl (hb hby at_74) rfl rfl kt) ?_
    refine go (T' := T17) (g' := (mkF m 79 #[.val (.int p1), .val (.int p2), .val (.int p3), .val (.int p4), .val (.int m1), .val (.int m2), .val (.int m3), .val (.ref bq), .val (.int (own_nl m1 m2 m3)), .val (.int (own_nl m1 m2 m3)), .unset] [(.long (2147483647 : Int64)), (.ref bq)])) (fun t kt => X17.ldc2Long hx hown (mvT hZ (hw _ (List.mem_of_getElem? (i := 30) rfl))) (g := (mkF m 76 #[.val (.int p1), .val (.int p2), .val (.int p3), .val (.int p4), .val (.int m1), .val (.int m2), .val (.int m3), .val (.ref bq), .val (.int (own_nl m1 m2 m3)), .val (.int (own_nl m1 m2 m3)), .unset] [(.ref bq)])) rfl (hb hby at_76) _ kt) ?_
    refine go (T' := T17) (g' := (mkF m 82 #[.val (.int p1), .val (.int p2), .val (.int p3), .val (.int p4), .val (.int m1), .val (.int m2), .val (.int m3), .val (.ref bq), .val (.int (own_nl m1 m2 m3)), .val (.int (own_nl m1 m2 m3)), .unset] [(.long (2147483647 : Int64)), (.long (2147483647 : Int64)), (.ref bq)])) (fun t kt => X17.ldc2Long hx hown (mvT hZ (hw _ (List.mem_of_getElem? (i := 30) rfl))) (g := (mkF m 79 #[.val (.int p1), .val (.int p2), .val (.int p3), .val (.int p4), .val (.int m1), .val (.int m2), .val (.int m3), .val (.ref bq), .val (.int (own_nl m1 m2 m3)), .val (.int (own_nl m1 m2 m3)), .unset] [(.long (2147483647 : Int64)), (.ref bq)])) rfl (hb hby at_79) _ kt) ?_
    refine go (T' := T17) (g' := (mkF m 85 #[.val (.int p1), .val (.int p2), .val (.int p3), .val (.int p4), .val (.int m1), .val (.int m2), .val (.int m3), .val (.ref bq), .val (.int (own_nl m1 m2 m3)), .val (.int (own_nl m1 m2 m3)), .unset] [(.long (2147483647 : Int64)), (.long (2147483647 : Int64)), (.long (2147483647 : Int64)), (.ref bq)])) (fun t kt => X17.ldc2Long hx hown (mvT hZ (hw _ (List.mem_of_getElem? (i := 30) rfl))) (g := (mkF m 82 #[.val (.int p1), .val (.int p2), .val (.int p3), .val (.int p4), .val (.int m1), .val (.int m2), .val (.int m3), .val (.ref bq), .val (.int (own_nl m1 m2 m3)), .val (.int (own_nl m1 m2 m3)), .unset] [(.long (2147483647 : Int64)), (.long (2147483647 : Int64)), (.ref bq)])) rfl (hb hby at_82) _ kt) ?_
    obtain ⟨cq18, kq18, q18a, q18b, q18c⟩ := isOf hZ e17 fE_bq_16
    obtain ⟨_, _, ⟨T18, L18, k18, n18⟩, -, X18, ⟨Lc18, hQ18, l18, y18, z18⟩, st18⟩ := X17.virtualBack hx (y := (⟨"com/example/tidemark/tidemark/Quotas", "allow", "(JJJ)Z"⟩ : MethodName)) (z := (⟨"com/example/tidemark/tidemark/Quotas", "allow", "(JJJ)Z"⟩ : MethodName)) hown (mvT hZ (hw _ (List.mem_of_getElem? (i := 31) rfl))) (mvT hZ (hw _ (List.mem_of_getElem? (i := 32) rfl))) (notFace_of_selects (args := #[]) (mvT hZ (hw _ (List.mem_of_getElem? (i := 34) rfl)))) (mvT hZ (hw _ (List.mem_of_getElem? (i := 34) rfl))) (mvT hZ (hw _ (List.mem_of_getElem? (i := 33) rfl))) (by decide) (backOf (W := 0) (rm6 l Z a0 hw [] bq 2147483647 2147483647 2147483647 m1 m2 m3 T16.heap n0 z16 F16a F16b F16c) hZ (hw _ (List.mem_of_getElem? (i := 35) rfl)) (hw _ (List.mem_of_getElem? (i := 11) rfl)) (by decide) (by decide)) q18a q18c (g := (mkF m 85 #[.val (.int p1), .val (.int p2), .val (.int p3), .val (.int p4), .val (.int m1), .val (.int m2), .val (.int m3), .val (.ref bq), .val (.int (own_nl m1 m2 m3)), .val (.int (own_nl m1 m2 m3)), .unset] [(.long (2147483647 : Int64)), (.long (2147483647 : Int64)), (.long (2147483647 : Int64)), (.ref bq)])) rfl (by rw [hml]; rfl) (Steps.refl _) (argsL := [(.long (2147483647 : Int64)), (.long (2147483647 : Int64)), (.long (2147483647 : Int64))]) (rest := []) (lenOf pd_4 rfl) rfl (by show 2 * 0 + _ ≤ _; exact Nat.le_of_eq rfl) (hb hby at_85) (fun _ _ => ⟨rfl, e17, (by decide : 1 + 0 ≤ _), (by decide : 3 + 0 ≤ _)⟩)
    dsimp only [Pt.U, Pt.locs, Pt.cells, Pt.slots] at X18 l18 y18 z18 st18 hQ18
    subst l18 y18 z18
    obtain ⟨rfl, N18q, e18⟩ := hQ18
    have N18 := Fr.app N17 N18q
    refine goV (T' := T18) (g' := (mkF m 88 #[.val (.int p1), .val (.int p2), .val (.int p3), .val (.int p4), .val (.int m1), .val (.int m2), .val (.int m3), .val (.ref bq), .val (.int (own_nl m1 m2 m3)), .val (.int (own_nl m1 m2 m3)), .unset] [(.int (own_al 2147483647 2147483647 2147483647 m1 m2 m3))])) st18 ?_
    refine go (T' := T18) (g' := (mkF m 90 #[.val (.int p1), .val (.int p2), .val (.int p3), .val (.int p4), .val (.int m1), .val (.int m2), .val (.int m3), .val (.ref bq), .val (.int (own_nl m1 m2 m3)), .val (.int (own_nl m1 m2 m3)), .val (.int (own_al 2147483647 2147483647 2147483647 m1 m2 m3))] [])) (fun t kt => XS.istore X18.here hx rfl (hb hby at_88) rfl (l' := #[.val (.int p1), .val (.int p2), .val (.int p3), .val (.int p4), .val (.int m1), .val (.int m2), .val (.int m3), .val (.ref bq), .val (.int (own_nl m1 m2 m3)), .val (.int (own_nl m1 m2 m3)), .val (.int (own_al 2147483647 2147483647 2147483647 m1 m2 m3))]) rfl kt) ?_
    refine go (T' := T18) (g' := (mkF m 92 #[.val (.int p1), .val (.int p2), .val (.int p3), .val (.int p4), .val (.int m1), .val (.int m2), .val (.int m3), .val (.ref bq), .val (.int (own_nl m1 m2 m3)), .val (.int (own_nl m1 m2 m3)), .val (.int (own_al 2147483647 2147483647 2147483647 m1 m2 m3))] [(.int (own_nl m1 m2 m3))])) (fun t kt => XS.iload X18.here hx rfl (hb hby at_90) rfl kt) ?_
    refine go (T' := T18) (g' := (mkF m 94 #[.val (.int p1), .val (.int p2), .val (.int p3), .val (.int p4), .val (.int m1), .val (.int m2), .val (.int m3), .val (.ref bq), .val (.int (own_nl m1 m2 m3)), .val (.int (own_nl m1 m2 m3)), .val (.int (own_al 2147483647 2147483647 2147483647 m1 m2 m3))] [(.int (own_nl m1 m2 m3)), (.int (own_nl m1 m2 m3))])) (fun t kt => XS.iload X18.here hx rfl (hb hby at_92) rfl kt) ?_
    refine go (T' := T18) (g' := (mkF m 97 #[.val (.int p1), .val (.int p2), .val (.int p3), .val (.int p4), .val (.int m1), .val (.int m2), .val (.int m3), .val (.ref bq), .val (.int (own_nl m1 m2 m3)), .val (.int (own_nl m1 m2 m3)), .val (.int (own_al 2147483647 2147483647 2147483647 m1 m2 m3))] [])) (fun t kt => XS.icmpNo X18.here hx rfl (hb hby at_94) rfl (teq (rfl : own_nl m1 m2 m3 = _)).2 kt) ?_
    refine go (T' := T18) (g' := (mkF m 99 #[.val (.int p1), .val (.int p2), .val (.int p3), .val (.int p4), .val (.int m1), .val (.int m2), .val (.int m3), .val (.ref bq), .val (.int (own_nl m1 m2 m3)), .val (.int (own_nl m1 m2 m3)), .val (.int (own_al 2147483647 2147483647 2147483647 m1 m2 m3))] [(.int (own_nl m1 m2 m3))])) (fun t kt => XS.iload X18.here hx rfl (hb hby at_97) rfl kt) ?_
    refine go (T' := T18) (g' := (mkF m 101 #[.val (.int p1), .val (.int p2), .val (.int p3), .val (.int p4), .val (.int m1), .val (.int m2), .val (.int m3), .val (.ref bq), .val (.int (own_nl m1 m2 m3)), .val (.int (own_nl m1 m2 m3)), .val (.int (own_al 2147483647 2147483647 2147483647 m1 m2 m3))] [(.int (own_al 2147483647 2147483647 2147483647 m1 m2 m3)), (.int (own_nl m1 m2 m3))])) (fun t kt => XS.iload X18.here hx rfl (hb hby at_99) rfl kt) ?_
    refine go (T' := T18) (g' := (mkF m 104 #[.val (.int p1), .val (.int p2), .val (.int p3), .val (.int p4), .val (.int m1), .val (.int m2), .val (.int m3), .val (.ref bq), .val (.int (own_nl m1 m2 m3)), .val (.int (own_nl m1 m2 m3)), .val (.int (own_al 2147483647 2147483647 2147483647 m1 m2 m3))] [])) (fun t kt => XS.icmpNo X18.here hx rfl (hb hby at_101) rfl (teq (own_alM m1 m2 m3).symm).2 kt) ?_
    refine go (T' := T18) (g' := (mkF m 105 #[.val (.int p1), .val (.int p2), .val (.int p3), .val (.int p4), .val (.int m1), .val (.int m2), .val (.int m3), .val (.ref bq), .val (.int (own_nl m1 m2 m3)), .val (.int (own_nl m1 m2 m3)), .val (.int (own_al 2147483647 2147483647 2147483647 m1 m2 m3))] [(.int (1 : Int32))])) (fun t kt => XS.iconst X18.here hx rfl (hb hby at_104) kt) ?_
    refine go (T' := T18) (g' := (mkF m 109 #[.val (.int p1), .val (.int p2), .val (.int p3), .val (.int p4), .val (.int m1), .val (.int m2), .val (.int m3), .val (.ref bq), .val (.int (own_nl m1 m2 m3)), .val (.int (own_nl m1 m2 m3)), .val (.int (own_al 2147483647 2147483647 2147483647 m1 m2 m3))] [(.int (1 : Int32))])) (fun t kt => XS.goto X18.here hx rfl (pc0 := 105) (pc' := 109) rfl (hb hby at_105) (by decide) (by decide) kt) ?_
    refine goRetN X18 hx hlk (t := .boolean) Bd.returns (by simp) (hb hby at_109) ?_ (by decide) (by decide)
    rw [e18]
    exact ⟨rfl, N18⟩
set_option maxRecDepth 65536 in
set_option maxHeartbeats 40000000 in
theorem comes_1 {Post : Tables → Env → Array Value → State → Outcome → State → Prop} (hpost : ∀ tb e args s v u, (limb_1_1.after args s (.returned v) u = true ∧ limb_1_2.after args s (.returned v) u = true ∧ True) → FrameEnd s (.returned v) u (Jvm.fieldLocs frame_1_writes args s ++ Jvm.arrayLocs frame_1_arrays args s ++ Jvm.staticLocs frame_1_statics s) 16 128 → Post tb e args s (.returned v) u) :
    ArmFor flags0 classFile x code maxLocals ret World_1 tables_1 room_1 Calls_1 rest_1 Pre_1 Post := by
  intro l hfl _ _ p e ha hc hk s m args below hf hA hF happ hP
  obtain ⟨hcalls, hrest, hpre⟩ := hP
  obtain ⟨-, -, -, hnamed, -, -, -, hat⟩ := (Spec.applies_iff hf).mp happ
  obtain ⟨hg, hn⟩ := and_e (Cond.before_iff.mp (show (Jvm.Cond.and given_1 narrow_1).before args s = true from hpre))
  obtain ⟨g2, g2'⟩ := and_e hg
  obtain ⟨g4, g4'⟩ := and_e g2'
  obtain ⟨g6, g6'⟩ := and_e g4'
  obtain ⟨g8, g8'⟩ := and_e g6'
  obtain ⟨w0, w1, w2, w3, rfl⟩ : ∃ w0 w1 w2 w3 : Value, args = #[w0, w1, w2, w3] := by
    have hs : args.size = 4 := by simpa [Cond.value, given_1] using g2
    obtain ⟨L⟩ := args
    match L, hs with
    | [w0, w1, w2, w3], _ => exact ⟨w0, w1, w2, w3, rfl⟩
  have hw := fun d (hd : d ∈ tables_1) => atoms_spec (ws := Jvm.Cond.code x code maxLocals ret :: tables_1) hat d (List.mem_cons_of_mem _ hd)
  have hfit : Fit s := fun {y c} hc i hi => by
    obtain ⟨ha, rfl⟩ := Array.getElem?_eq_some_iff.mp hc
    have q := List.all_eq_true.mp ((Array.all_eq_true_iff_forall_mem.mp hF) _ (Array.getElem_mem ha)) i (List.mem_range.mpr hi)
    simpa [Array.getElem?_eq_getElem hi] using q
  obtain ⟨i0, ei0⟩ := is_v g4
  obtain rfl : w0 = (.int i0) := Option.some.inj ei0
  obtain ⟨i1, ei1⟩ := is_v g6
  obtain rfl : w1 = (.int i1) := Option.some.inj ei1
  obtain ⟨i2, ei2⟩ := is_v g8
  obtain rfl : w2 = (.int i2) := Option.some.inj ei2
  obtain ⟨i3, ei3⟩ := is_v g8'
  obtain rfl : w3 = (.int i3) := Option.some.inj ei3
  obtain ⟨n, o, h1, h2, h3, _, L, rfl, ⟨rfl, N⟩, hq⟩ := rm0 l s _ hw tables_1 i0 i1 i2 i3 s.heap s.heap.size (Nat.le_refl _) p e ha hc hk s m _ below hf ((Spec.applies_iff_loose hf).mp happ).1 ⟨rfl, State.Warmed39.refl s, rfl⟩ trivial
  refine ⟨n, _, h1, h2, h3, hpost _ _ _ _ _ _ ⟨Cond.after_iff.mpr rfl, Cond.after_iff.mpr (eq_i res_at (Term.int_eval (1)) rfl), trivial⟩ ⟨hq.1, hq.2.1, (hq.2.2.sift fun y hy => Or.inr (N y hy)).mono (by decide) (by decide)⟩⟩
theorem main_1_1 : Claimed_1_1 := comes_1 fun _ _ _ _ _ _ h hF => ⟨h.1, hF⟩
theorem main_1_2 : Claimed_1_2 := comes_1 fun _ _ _ _ _ _ h hF => ⟨h.2.1, hF⟩
end Jvm.Pilot.@@N@@
namespace Jvm.Pilot.@@N@@
open Jvm Jvm.ClassFile Sem Op Lib Jvm.Free Jvm.Stand Jvm.Pilot.@@N@@.Jvm.D
/-! MADE BY PROGRAM (witnessworld.py) out of the Statement's table words and the real class files: 10 classes; the members and pool entries that the words name. The judged class is class 1, her method 2. -/
namespace start1
open Jvm.ClassFile
def u (s : String) : CpInfo := .utf8 (stringToUtf16 s)
/-- a pool by its gaps: so many unusable entries, then the entry; so many at the end -/
def gap : Nat → List CpInfo → List CpInfo
  | 0, r => r
  | n + 1, r => .unusable :: gap n r
def poolList (es : List (Nat × CpInfo)) (last : Nat) : List CpInfo := es.foldr (fun e r => gap e.1 (e.2 :: r)) (gap last [])
def pool (es : List (Nat × CpInfo)) (last : Nat) : Array CpInfo := ⟨poolList es last⟩
def fileOf (pool : Array CpInfo) (this : Nat) (attrs : Array Attribute := #[]) (ms : Array MethodInfo := #[]) (fl : Nat := 33) (sup : Nat := 0) (ifs : Array Nat := #[]) (fds : Array FieldInfo := #[]) : ClassFile where
  minorVersion := 0
  majorVersion := 65
  constantPool := pool
  accessFlags := fl
  thisClass := this
  superClass := sup
  interfaces := ifs
  fields := fds
  methods := ms
  attributes := attrs
def plain (name : String) (sup : Option ClassId) : Class where
  name := name
  kind := .ordinary
  loader := none
  accessFlags := 33
  super := sup
  interfaces := #[]
  cf := none
  fields := #[]
  methods := #[]
  instanceTypes := #[]
  staticTypes := #[]
  resolved := #[]
  callSites := []
  init := .initialized
  statics := none
  mirror := none

def pool0 : Array CpInfo := pool [(5, u "<init>"), (0, u "()V"), (1, .class_ 10), (1, u "java/lang/Object")] 113

def k0c0 : Code := { maxStack := 0, maxLocals := 1, code := object_method_1_code, exceptionTable := #[], attributes := #[] }
def k0m0 : Method := { name := "<init>", desc := "()V", sig := { parameters := [], returnType := none }, accessFlags := 1, code := some k0c0 }
/-- java/lang/Object -/
def k0 : Class := { plain "java/lang/Object" none with
  accessFlags := 33
  interfaces := #[]
  cf := some (fileOf pool0 8 #[] #[{ accessFlags := 1, nameIndex := 5, descriptorIndex := 6, attributes := #[] }] 33 0 #[] #[])
  fields := #[]
  methods := #[k0m0]
  instanceTypes := #[]
  staticTypes := #[]
  resolved := Array.replicate 124 none
  statics := none }

def pool1 : Array CpInfo := pool [(2, .class_ 4), (1, u "java/lang/Object"), (0, u "<init>"), (0, u "()V"), (0, .class_ 8), (0, u "com/example/tidemark/tidemark/Quotas"), (0, .integer 2147483647), (0, .methodref 11 12), (0, .class_ 13), (0, .nameAndType 14 15), (0, u "java/lang/Math"), (0, u "max"), (0, u "(II)I"), (0, .methodref 17 18), (0, .class_ 19), (0, .nameAndType 20 21), (0, u "com/example/tidemark/tidemark/QuotasLimitNothingPinLaw"), (0, u "limit"), (0, u "(III)I"), (0, .methodref 7 23), (0, .nameAndType 5 24), (0, u "(III)V"), (2, .methodref 7 28), (0, .nameAndType 29 30), (0, u "limitNothing"), (0, u "()Z"), (0, .long 2147483647), (1, .methodref 7 34), (0, .nameAndType 35 36), (0, u "allow"), (0, u "(JJJ)Z"), (3, u "law"), (0, u "(IIII)Z")] 2

def k1m0 : Method := { name := "<init>", desc := "()V", sig := { parameters := [], returnType := none }, accessFlags := 1, code := none }
def k1c1 : Code := { maxStack := 3, maxLocals := 3, code := method_2_code, exceptionTable := #[], attributes := #[] }
def k1m1 : Method := { name := "limit", desc := "(III)I", sig := { parameters := [.int, .int, .int], returnType := some .int }, accessFlags := 10, code := some k1c1 }
def k1c2 : Code := { maxStack := 7, maxLocals := 11, code := code, exceptionTable := #[], attributes := #[] }
def k1m2 : Method := { name := "law", desc := "(IIII)Z", sig := { parameters := [.int, .int, .int, .int], returnType := some .boolean }, accessFlags := 9, code := some k1c2 }
/-- com/example/tidemark/tidemark/QuotasLimitNothingPinLaw -/
def k1 : Class := { plain "com/example/tidemark/tidemark/QuotasLimitNothingPinLaw" (some 0) with
  accessFlags := 49
  interfaces := #[]
  cf := some (fileOf pool1 17 #[] #[{ accessFlags := 1, nameIndex := 5, descriptorIndex := 6, attributes := #[] }, { accessFlags := 10, nameIndex := 20, descriptorIndex := 21, attributes := #[] }, { accessFlags := 9, nameIndex := 40, descriptorIndex := 41, attributes := #[] }] 49 2 #[] #[])
  fields := #[]
  methods := #[k1m0, k1m1, k1m2]
  instanceTypes := #[]
  staticTypes := #[]
  resolved := Array.replicate 44 none
  statics := none }

def pool2 : Array CpInfo := pool [(1, .class_ 2), (0, u "java/lang/Math"), (1, .class_ 6), (1, u "java/lang/Object"), (0, u "<init>"), (0, u "()V"), (89, .class_ 100), (1, u "java/lang/Math$RandomNumberGeneratorHolder"), (71, u "negativeZeroFloatBits"), (0, u "J"), (2, u "negativeZeroDoubleBits"), (21, u "max"), (46, u "$assertionsDisabled"), (0, u "Z"), (88, u "(II)I"), (2, u "twoToTheDoubleScaleDown"), (0, u "D"), (4, u "twoToTheDoubleScaleUp"), (9, u "E"), (3, u "PI"), (2, u "TAU"), (2, u "DEGREES_TO_RADIANS"), (0, u "RADIANS_TO_DEGREES")] 94

def k2m0 : Method := { name := "<init>", desc := "()V", sig := { parameters := [], returnType := none }, accessFlags := 2, code := none }
def k2c1 : Code := { maxStack := 2, maxLocals := 2, code := jdk_29_method_65_code, exceptionTable := #[], attributes := #[] }
def k2m1 : Method := { name := "max", desc := "(II)I", sig := { parameters := [.int, .int], returnType := some .int }, accessFlags := 9, code := some k2c1 }
/-- java/lang/Math -/
def k2 : Class := { plain "java/lang/Math" (some 0) with
  accessFlags := 49
  interfaces := #[]
  cf := some (fileOf pool2 1 #[.nestMembers #[98]] #[{ accessFlags := 2, nameIndex := 7, descriptorIndex := 8, attributes := #[] }, { accessFlags := 9, nameIndex := 198, descriptorIndex := 335, attributes := #[] }] 49 4 #[] #[{ accessFlags := 25, nameIndex := 354, descriptorIndex := 339, attributes := #[] }, { accessFlags := 25, nameIndex := 358, descriptorIndex := 339, attributes := #[] }, { accessFlags := 25, nameIndex := 361, descriptorIndex := 339, attributes := #[] }, { accessFlags := 26, nameIndex := 364, descriptorIndex := 339, attributes := #[] }, { accessFlags := 26, nameIndex := 365, descriptorIndex := 339, attributes := #[] }, { accessFlags := 26, nameIndex := 172, descriptorIndex := 173, attributes := #[] }, { accessFlags := 26, nameIndex := 176, descriptorIndex := 173, attributes := #[] }, { accessFlags := 8, nameIndex := 344, descriptorIndex := 339, attributes := #[] }, { accessFlags := 8, nameIndex := 338, descriptorIndex := 339, attributes := #[] }, { accessFlags := 4120, nameIndex := 245, descriptorIndex := 246, attributes := #[] }])
  fields := #[{ name := "E", type := .double, accessFlags := 25, slot := 0, constantValue := 0 }, { name := "PI", type := .double, accessFlags := 25, slot := 1, constantValue := 0 }, { name := "TAU", type := .double, accessFlags := 25, slot := 2, constantValue := 0 }, { name := "DEGREES_TO_RADIANS", type := .double, accessFlags := 26, slot := 3, constantValue := 0 }, { name := "RADIANS_TO_DEGREES", type := .double, accessFlags := 26, slot := 4, constantValue := 0 }, { name := "negativeZeroFloatBits", type := .long, accessFlags := 26, slot := 5, constantValue := 0 }, { name := "negativeZeroDoubleBits", type := .long, accessFlags := 26, slot := 6, constantValue := 0 }, { name := "twoToTheDoubleScaleUp", type := .double, accessFlags := 8, slot := 7, constantValue := 0 }, { name := "twoToTheDoubleScaleDown", type := .double, accessFlags := 8, slot := 8, constantValue := 0 }, { name := "$assertionsDisabled", type := .boolean, accessFlags := 4120, slot := 9, constantValue := 0 }]
  methods := #[k2m0, k2m1]
  instanceTypes := #[]
  staticTypes := #[.double, .double, .double, .double, .double, .long, .long, .double, .double, .boolean]
  resolved := Array.replicate 460 none
  statics := none }

def pool3 : Array CpInfo := pool [(3, .methodref 4 5), (0, .class_ 6), (0, .nameAndType 7 8), (0, u "java/lang/Object"), (0, u "<init>"), (0, u "()V"), (9, .fieldref 19 20), (0, .class_ 21), (0, .nameAndType 22 23), (0, u "com/example/tidemark/tidemark/Quotas"), (0, u "maxVcpus"), (0, u "I"), (0, .fieldref 19 25), (0, .nameAndType 26 23), (0, u "maxVms"), (0, .fieldref 19 28), (0, .nameAndType 29 23), (0, u "maxVmsPerType"), (0, .integer 2147483647), (8, u "allow"), (0, u "(JJJ)Z"), (2, u "(III)V"), (2, u "NONE"), (0, u "Lcom/example/tidemark/tidemark/Quotas;"), (0, u "NO_LIMIT"), (4, u "limitNothing"), (0, u "()Z")] 20

def k3c0 : Code := { maxStack := 5, maxLocals := 4, code := prog_7_method_1_code, exceptionTable := #[], attributes := #[] }
def k3m0 : Method := { name := "<init>", desc := "(III)V", sig := { parameters := [.int, .int, .int], returnType := none }, accessFlags := 1, code := some k3c0 }
def k3c1 : Code := { maxStack := 2, maxLocals := 1, code := prog_7_method_5_code, exceptionTable := #[], attributes := #[] }
def k3m1 : Method := { name := "limitNothing", desc := "()Z", sig := { parameters := [], returnType := some .boolean }, accessFlags := 0, code := some k3c1 }
def k3c2 : Code := { maxStack := 4, maxLocals := 7, code := prog_7_method_6_code, exceptionTable := #[], attributes := #[] }
def k3m2 : Method := { name := "allow", desc := "(JJJ)Z", sig := { parameters := [.long, .long, .long], returnType := some .boolean }, accessFlags := 0, code := some k3c2 }
/-- com/example/tidemark/tidemark/Quotas -/
def k3 : Class := { plain "com/example/tidemark/tidemark/Quotas" (some 0) with
  accessFlags := 49
  interfaces := #[]
  cf := some (fileOf pool3 19 #[] #[{ accessFlags := 1, nameIndex := 7, descriptorIndex := 43, attributes := #[] }, { accessFlags := 0, nameIndex := 53, descriptorIndex := 54, attributes := #[] }, { accessFlags := 0, nameIndex := 39, descriptorIndex := 40, attributes := #[] }] 49 4 #[] #[{ accessFlags := 25, nameIndex := 48, descriptorIndex := 23, attributes := #[] }, { accessFlags := 25, nameIndex := 46, descriptorIndex := 47, attributes := #[] }, { accessFlags := 18, nameIndex := 22, descriptorIndex := 23, attributes := #[] }, { accessFlags := 18, nameIndex := 26, descriptorIndex := 23, attributes := #[] }, { accessFlags := 18, nameIndex := 29, descriptorIndex := 23, attributes := #[] }])
  fields := #[{ name := "NO_LIMIT", type := .int, accessFlags := 25, slot := 0, constantValue := 0 }, { name := "NONE", type := (.object "com/example/tidemark/tidemark/Quotas"), accessFlags := 25, slot := 1, constantValue := 0 }, { name := "maxVcpus", type := .int, accessFlags := 18, slot := 0, constantValue := 0 }, { name := "maxVms", type := .int, accessFlags := 18, slot := 1, constantValue := 0 }, { name := "maxVmsPerType", type := .int, accessFlags := 18, slot := 2, constantValue := 0 }]
  methods := #[k3m0, k3m1, k3m2]
  instanceTypes := #[.int, .int, .int]
  staticTypes := #[.int, (.object "com/example/tidemark/tidemark/Quotas")]
  resolved := Array.replicate 75 none
  statics := none }

def pool4 : Array CpInfo := pool [(1, u "java/lang/Cloneable"), (0, .class_ 1), (0, u "java/lang/Object"), (0, .class_ 3)] 3

/-- java/lang/Cloneable -/
def k4 : Class := { plain "java/lang/Cloneable" (some 0) with
  accessFlags := 1537
  interfaces := #[]
  cf := some (fileOf pool4 2 #[] #[] 1537 4 #[] #[])
  fields := #[]
  methods := #[]
  instanceTypes := #[]
  staticTypes := #[]
  resolved := Array.replicate 8 none
  statics := none }

def pool5 : Array CpInfo := pool [(1, u "java/io/Serializable"), (0, .class_ 1), (0, u "java/lang/Object"), (0, .class_ 3)] 3

/-- java/io/Serializable -/
def k5 : Class := { plain "java/io/Serializable" (some 0) with
  accessFlags := 1537
  interfaces := #[]
  cf := some (fileOf pool5 2 #[] #[] 1537 4 #[] #[])
  fields := #[]
  methods := #[]
  instanceTypes := #[]
  staticTypes := #[]
  resolved := Array.replicate 8 none
  statics := none }

/-- the primitive byte -/
def k6 : Class := { plain "byte" none with kind := .primitive 'B', accessFlags := 0x411 }
/-- [B -/
def k7 : Class := { plain "[B" (some 0) with kind := .array 6 .byte, interfaces := #[4, 5], accessFlags := 1041 }

/-- the primitive int -/
def k8 : Class := { plain "int" none with kind := .primitive 'I', accessFlags := 0x411 }
/-- [I -/
def k9 : Class := { plain "[I" (some 0) with kind := .array 8 .int, interfaces := #[4, 5], accessFlags := 1041 }

def heap : Heap := #[]
def classes : Array Class := #[k0, k1, k2, k3, k4, k5, k6, k7, k8, k9]
def interned : List (Array UInt16 × Addr) := []
def slotsUsed : Nat := 0
def theMethod : MethodId := ⟨1, 2⟩
def args0 : Array Value := #[.int 5, .int 3, .int 1, .int 7]
def aboutOver (below : List Frame) : State where
  vm := { classes := classes, interned := interned.toArray }
  heap := heap
  slotsUsed := slotsUsed
  threads := #[{ frames := .invoking theMethod args0 :: below }]
def below0 : List Frame := [.native { method := ⟨0, 0⟩, args := #[] }]
def about1 : State := aboutOver below0
def p0 : Program := .bare "" "" ""
def e0 : Env := launch0.env 0 0 0
theorem w_frames : about1.frames = Frame.invoking theMethod args0 :: below0 := rfl
set_option maxRecDepth 65536 in
theorem w_args : argsFit about1.vm theMethod args0 = true := by decide +kernel
set_option maxRecDepth 65536 in
theorem w_heap : heapFits about1 = true := by decide +kernel
set_option maxRecDepth 65536 in
theorem w_runnable : about1.curStatus? = some .runnable := by decide +kernel
set_option maxRecDepth 65536 in
theorem w_alone : about1.alone = true := by decide +kernel
set_option maxRecDepth 65536 in
theorem w_named : about1.methodNamed? x = some theMethod := by decide +kernel
set_option maxRecDepth 65536 in
theorem w_hears : about1.hears theMethod below0 = true := by decide +kernel
set_option maxRecDepth 65536 in
theorem w_ripe : about1.ripe theMethod args0 below0 = true := by decide +kernel
theorem w_running : about1.status = .running := rfl
set_option maxRecDepth 65536 in
theorem w_room : about1.hasRoom e0.platform room_1 = true :=
  launch0.hasRoom_least _ room_1 (by decide +kernel) (by decide +kernel) (by decide +kernel) (by decide +kernel) (by decide +kernel) (by decide +kernel)
theorem allAtoms_all (ts : List Jvm.Cond) (a : Array Jvm.Value) (st : Jvm.State) : (allAtoms ts).before a st = ts.all (fun c => c.before a st) := by
  induction ts with
  | nil => rfl
  | cons c t ih =>
    show (Jvm.Cond.and c (allAtoms t)).before a st = _
    rw [Jvm.Cond.before_and, ih, List.all_cons]
def words1 : List Jvm.Cond := Jvm.Cond.code x code maxLocals ret :: tables_1
/-- a 'code' word, met by the world's own term for the bytes: nothing is compared byte by byte -/
theorem code_word {y : MethodName} {bytes : ByteArray} {mx : Nat} {rt : Option FieldType} {a : Array Value} {s : State} {m : MethodId} {meth : Method} {c : Code} (h1 : s.methodNamed? y = some m) (h2 : s.vm.method? m = some meth) (h3 : meth.code = some c) (h4 : c.code = bytes)
    (h5 : (c.maxLocals == mx && c.exceptionTable.isEmpty && decide (c.maxStack ≤ mostOperands) && decide (meth.sig.returnType = rt) && !meth.locks && decide (parseMethodDescriptor y.desc = some meth.sig)) = true) : (Jvm.Cond.code y bytes mx rt).before a s = true := by
  simp only [Bool.and_eq_true, beq_iff_eq, Bool.not_eq_true', decide_eq_true_eq] at h5
  obtain ⟨⟨⟨⟨⟨g1, g2⟩, g3⟩, g4⟩, g5⟩, g6⟩ := h5
  simp [Cond.before, Cond.holds, Cond.value, h1, h2, h3, h4, g1, g2, g3, g4, g5, g6]
def isCode : Jvm.Cond → Bool
  | .code _ _ _ _ => true
  | _ => false
theorem all_split {L : List Jvm.Cond} {P : Jvm.Cond → Bool} (h1 : L.all (fun c => isCode c || P c) = true) (h2 : ∀ c ∈ L.filter isCode, P c = true) : L.all P = true := by
  refine List.all_eq_true.mpr fun c hc => ?_
  have h := List.all_eq_true.mp h1 c hc
  rcases Bool.eq_false_or_eq_true (isCode c) with hi | hi
  · exact h2 c (List.mem_filter.mpr ⟨hc, hi⟩)
  · simpa [hi] using h
set_option maxRecDepth 65536 in
theorem w_c0 : (Jvm.Cond.code x code maxLocals ret).before args0 about1 = true := code_word (m := ⟨1, 2⟩) (meth := k1m2) (c := k1c2) (by decide +kernel) rfl rfl rfl (by decide +kernel)
set_option maxRecDepth 65536 in
theorem w_c1 : (Jvm.Cond.code ({ cls := "com/example/tidemark/tidemark/QuotasLimitNothingPinLaw", name := "limit", desc := "(III)I" } : Jvm.MethodName) method_2_code (3 : Nat) (Option.some Jvm.ClassFile.FieldType.int)).before args0 about1 = true := code_word (m := ⟨1, 1⟩) (meth := k1m1) (c := k1c1) (by decide +kernel) rfl rfl rfl (by decide +kernel)
set_option maxRecDepth 65536 in
theorem w_c2 : (Jvm.Cond.code ({ cls := "java/lang/Math", name := "max", desc := "(II)I" } : Jvm.MethodName) jdk_29_method_65_code (2 : Nat) (Option.some Jvm.ClassFile.FieldType.int)).before args0 about1 = true := code_word (m := ⟨2, 1⟩) (meth := k2m1) (c := k2c1) (by decide +kernel) rfl rfl rfl (by decide +kernel)
set_option maxRecDepth 65536 in
theorem w_c3 : (Jvm.Cond.code ({ cls := "com/example/tidemark/tidemark/Quotas", name := "<init>", desc := "(III)V" } : Jvm.MethodName) prog_7_method_1_code (4 : Nat) (Option.none : Option Jvm.ClassFile.FieldType)).before args0 about1 = true := code_word (m := ⟨3, 0⟩) (meth := k3m0) (c := k3c0) (by decide +kernel) rfl rfl rfl (by decide +kernel)
set_option maxRecDepth 65536 in
theorem w_c4 : (Jvm.Cond.code ({ cls := "java/lang/Object", name := "<init>", desc := "()V" } : Jvm.MethodName) object_method_1_code (1 : Nat) (Option.none : Option Jvm.ClassFile.FieldType)).before args0 about1 = true := code_word (m := ⟨0, 0⟩) (meth := k0m0) (c := k0c0) (by decide +kernel) rfl rfl rfl (by decide +kernel)
set_option maxRecDepth 65536 in
theorem w_c5 : (Jvm.Cond.code ({ cls := "com/example/tidemark/tidemark/Quotas", name := "limitNothing", desc := "()Z" } : Jvm.MethodName) prog_7_method_5_code (1 : Nat) (Option.some Jvm.ClassFile.FieldType.boolean)).before args0 about1 = true := code_word (m := ⟨3, 1⟩) (meth := k3m1) (c := k3c1) (by decide +kernel) rfl rfl rfl (by decide +kernel)
set_option maxRecDepth 65536 in
theorem w_c6 : (Jvm.Cond.code ({ cls := "com/example/tidemark/tidemark/Quotas", name := "allow", desc := "(JJJ)Z" } : Jvm.MethodName) prog_7_method_6_code (7 : Nat) (Option.some Jvm.ClassFile.FieldType.boolean)).before args0 about1 = true := code_word (m := ⟨3, 2⟩) (meth := k3m2) (c := k3c2) (by decide +kernel) rfl rfl rfl (by decide +kernel)
def codes1 : List Jvm.Cond := [Jvm.Cond.code x code maxLocals ret, Jvm.Cond.code ({ cls := "com/example/tidemark/tidemark/QuotasLimitNothingPinLaw", name := "limit", desc := "(III)I" } : Jvm.MethodName) method_2_code (3 : Nat) (Option.some Jvm.ClassFile.FieldType.int), Jvm.Cond.code ({ cls := "java/lang/Math", name := "max", desc := "(II)I" } : Jvm.MethodName) jdk_29_method_65_code (2 : Nat) (Option.some Jvm.ClassFile.FieldType.int), Jvm.Cond.code ({ cls := "com/example/tidemark/tidemark/Quotas", name := "<init>", desc := "(III)V" } : Jvm.MethodName) prog_7_method_1_code (4 : Nat) (Option.none : Option Jvm.ClassFile.FieldType), Jvm.Cond.code ({ cls := "java/lang/Object", name := "<init>", desc := "()V" } : Jvm.MethodName) object_method_1_code (1 : Nat) (Option.none : Option Jvm.ClassFile.FieldType), Jvm.Cond.code ({ cls := "com/example/tidemark/tidemark/Quotas", name := "limitNothing", desc := "()Z" } : Jvm.MethodName) prog_7_method_5_code (1 : Nat) (Option.some Jvm.ClassFile.FieldType.boolean), Jvm.Cond.code ({ cls := "com/example/tidemark/tidemark/Quotas", name := "allow", desc := "(JJJ)Z" } : Jvm.MethodName) prog_7_method_6_code (7 : Nat) (Option.some Jvm.ClassFile.FieldType.boolean)]
set_option maxRecDepth 65536 in
theorem codes_eq : words1.filter isCode = codes1 := rfl
theorem w_codes : ∀ c ∈ words1.filter isCode, c.before args0 about1 = true := by
  rw [codes_eq]
  intro c hc
  simp only [codes1, List.mem_cons, List.not_mem_nil, or_false] at hc
  rcases hc with rfl | rfl | rfl | rfl | rfl | rfl | rfl
  · exact w_c0
  · exact w_c1
  · exact w_c2
  · exact w_c3
  · exact w_c4
  · exact w_c5
  · exact w_c6
set_option maxRecDepth 65536 in
theorem w_t1 : (words1.take 24).all (fun c => isCode c || c.before args0 about1) = true := by decide +kernel
set_option maxRecDepth 65536 in
theorem w_t2 : (words1.drop 24).all (fun c => isCode c || c.before args0 about1) = true := by decide +kernel
theorem w_tables : (allAtoms (Jvm.Cond.code x code maxLocals ret :: tables_1)).before args0 about1 = true := by
  rw [allAtoms_all]
  show words1.all (fun c => c.before args0 about1) = true
  refine all_split ?_ w_codes
  rw [← List.take_append_drop 24 words1, List.all_append, w_t1, w_t2]
  rfl
set_option maxRecDepth 65536 in
theorem w_case : (Jvm.Cond.and given_1 narrow_1).before args0 about1 = true := by decide +kernel
theorem w_applies : (headSpec (Jvm.Cond.code x code maxLocals ret :: tables_1) room_1).applies x e0.platform about1 = true :=
  (Spec.applies_iff w_frames).mpr ⟨w_running, w_runnable, w_alone, w_named, w_hears, w_ripe, w_room, w_tables⟩
theorem atStart : AtStart classFile x code maxLocals ret World_1 tables_1 room_1 Calls_1 rest_1 Pre_1 launch0 p0 e0 about1 theMethod args0 below0 :=
  ⟨lists_1, trivial, launch0.admits_env _ _ _, launch0.least_env, fairChoices_fair.cas, fairChoices_fair.clock, w_frames, w_args, w_heap, w_applies, trivial, trivial, w_case⟩
end start1
theorem witness_1 : WitnessClaimed_1 := ⟨start1.p0, start1.e0, start1.about1, start1.theMethod, start1.args0, start1.below0, start1.atStart⟩
end Jvm.Pilot.@@N@@
