import JvmDerived
import JvmDerived.Pilot.@@N@@Statement
import JvmDerived.Pilot.@@N@@Code
set_option linter.unusedVariables false
set_option linter.unusedSimpArgs false
namespace Jvm.Pilot.@@N@@
open Jvm Jvm.ClassFile Sem Op Lib Jvm.Free Jvm.Stand Jvm.LawKit Jvm.RoadKit Bundle Jvm.Pilot.@@N@@.Jvm.D
section OwnKit
variable {p : Program} {l : Launch} {e : Env} {R : Room} {s : State} {m : MethodId} {args : Array Value} {below : List Frame} {meth : Method} {c : Code} {T T' : State} {locs : List Loc} {cells slots ck sk : Nat} {Q : Option Value → Heap → List Loc → Prop} {g g' : JFrame}
/-- from the state T with the top frame g the body ends, and Q says how -/
def Goes (p : Program) (e : Env) (below : List Frame) (s : State) (ck sk : Nat) (Q : Option Value → Heap → List Loc → Prop) (T : State) (g : JFrame) : Prop :=
  ∃ s₂ o, Steps p.tables e below (T.setTop g) s₂ ∧ s₂.status = .running ∧ Ended s₂ below o ∧ ∃ v L, o = .returned v ∧ Q v s₂.heap L ∧ FrameEnd s o s₂ L ck sk
theorem go (h : ∀ t, Steps p.tables e below (T'.setTop g') t → Steps p.tables e below (T.setTop g) t) (k : Goes p e below s ck sk Q T' g') : Goes p e below s ck sk Q T g := by
  obtain ⟨s₂, o, h1, r⟩ := k
  exact ⟨s₂, o, h _ h1, r⟩
theorem goV (h : Steps p.tables e below (T.setTop g) (T'.setTop g')) (k : Goes p e below s ck sk Q T' g') : Goes p e below s ck sk Q T g := go (fun _ kt => h.trans kt) k
theorem goEq (h : g = g') (k : Goes p e below s ck sk Q T g') : Goes p e below s ck sk Q T g := h ▸ k
theorem goVia {T₂ : State} {g₂ : JFrame} (h : Goes p e below s ck sk Q T₂ g₂ → Goes p e below s ck sk Q T g) (k : Goes p e below s ck sk Q T₂ g₂) : Goes p e below s ck sk Q T g := h k
theorem goRetN (X : Stand p l e R s m args below meth c T locs cells slots) (hx : p.tables.exec = Jvm.exec) (hlk : meth.locks = false) {pc : Nat} {Ls : Array Slot} {z : Int32} {t : FieldType} {rest : List Value} (hret : meth.sig.returnType = some t) (ht : t = .boolean ∨ t = .byte ∨ t = .char ∨ t = .short) (hd : decode c.code pc = .ok (.ireturn, 1))
    (hq : Q (some (.int (nar t z))) T.heap locs) (h1 : cells ≤ ck) (h2 : slots ≤ sk) : Goes p e below s ck sk Q T (mkF m pc Ls (.int z :: rest)) := by
  obtain ⟨fs, hr, hrun, hended, hW, hsame⟩ := X.leave (v := some (.int (nar t z))) (fun h => by rw [hret] at h; cases h)
  exact ⟨_, _, retN X hx hret ht hd hr, hrun, hended, _, _, rfl, hq, ⟨_, rfl⟩, hW, hsame.mono h1 h2⟩
theorem goRetI (X : Stand p l e R s m args below meth c T locs cells slots) (hx : p.tables.exec = Jvm.exec) (hlk : meth.locks = false) {pc : Nat} {Ls : Array Slot} {z : Int32} {rest : List Value} (hret : meth.sig.returnType = some .int) (hd : decode c.code pc = .ok (.ireturn, 1))
    (hq : Q (some (.int z)) T.heap locs) (h1 : cells ≤ ck) (h2 : slots ≤ sk) : Goes p e below s ck sk Q T (mkF m pc Ls (.int z :: rest)) := by
  obtain ⟨fs, hr, hrun, hended, hW, hsame⟩ := X.leave (v := some (.int z)) (fun h => by rw [hret] at h; cases h)
  exact ⟨_, _, retOut X hx hret rfl (Or.inl ⟨rfl, Or.inl rfl, z, rfl⟩) hd hr, hrun, hended, _, _, rfl, hq, ⟨_, rfl⟩, hW, hsame.mono h1 h2⟩
theorem goRetJ (X : Stand p l e R s m args below meth c T locs cells slots) (hx : p.tables.exec = Jvm.exec) (hlk : meth.locks = false) {pc : Nat} {Ls : Array Slot} {z : Int64} {rest : List Value} (hret : meth.sig.returnType = some .long) (hd : decode c.code pc = .ok (.lreturn, 1))
    (hq : Q (some (.long z)) T.heap locs) (h1 : cells ≤ ck) (h2 : slots ≤ sk) : Goes p e below s ck sk Q T (mkF m pc Ls (.long z :: rest)) := by
  obtain ⟨fs, hr, hrun, hended, hW, hsame⟩ := X.leave (v := some (.long z)) (fun h => by rw [hret] at h; cases h)
  exact ⟨_, _, retOut X hx hret rfl (Or.inr (Or.inl ⟨rfl, rfl, z, rfl⟩)) hd hr, hrun, hended, _, _, rfl, hq, ⟨_, rfl⟩, hW, hsame.mono h1 h2⟩
theorem goRetA (X : Stand p l e R s m args below meth c T locs cells slots) (hx : p.tables.exec = Jvm.exec) (hlk : meth.locks = false) {pc : Nat} {Ls : Array Slot} {w : Value} {t : FieldType} {rest : List Value} (hret : meth.sig.returnType = some t) (ht : t.isReference = true) (hn : narrow t w = w) (hw : w.isRef = true) (hd : decode c.code pc = .ok (.areturn, 1))
    (hq : Q (some w) T.heap locs) (h1 : cells ≤ ck) (h2 : slots ≤ sk) : Goes p e below s ck sk Q T (mkF m pc Ls (w :: rest)) := by
  obtain ⟨fs, hr, hrun, hended, hW, hsame⟩ := X.leave (v := some w) (fun h => by rw [hret] at h; cases h)
  exact ⟨_, _, retOut X hx hret hn (Or.inr (Or.inr (Or.inr (Or.inr ⟨rfl, ht, hw⟩)))) hd hr, hrun, hended, _, _, rfl, hq, ⟨_, rfl⟩, hW, hsame.mono h1 h2⟩
theorem goRetV (X : Stand p l e R s m args below meth c T locs cells slots) (hx : p.tables.exec = Jvm.exec) (hlk : meth.locks = false) {pc : Nat} {Ls : Array Slot} (hret : meth.sig.returnType = none) (hd : decode c.code pc = .ok (.return_, 1))
    (hq : Q none T.heap locs) (h1 : cells ≤ ck) (h2 : slots ≤ sk) : Goes p e below s ck sk Q T (mkF m pc Ls []) := by
  obtain ⟨fs, hr, hrun, hended, hW, hsame⟩ := X.leave (v := none) (fun _ => rfl)
  exact ⟨_, _, X.returnOut hx hret hd hr, hrun, hended, _, _, rfl, hq, ⟨_, rfl⟩, hW, hsame.mono h1 h2⟩
theorem own_l0 {x y : Int64} (h : x = y) : ifCond.holds .eq (lcmpW x y) = true ∧ ifCond.holds .ne (lcmpW x y) = false := by rw [if0, if0]; exact teq ((lw_eq x y).mpr h)
theorem own_l1 {x y : Int64} (h : ¬ x = y) : ifCond.holds .eq (lcmpW x y) = false ∧ ifCond.holds .ne (lcmpW x y) = true := by rw [if0, if0]; exact feq fun q => h ((lw_eq x y).mp q)
theorem own_l2 {x y : Int64} (h : x < y) : ifCond.holds .lt (lcmpW x y) = true ∧ ifCond.holds .ge (lcmpW x y) = false := by rw [if0, if0]; exact ⟨(tlt ((lw_lt x y).mpr h)).1, (tlt ((lw_lt x y).mpr h)).2.1⟩
theorem own_l3 {x y : Int64} (h : ¬ x < y) : ifCond.holds .lt (lcmpW x y) = false ∧ ifCond.holds .ge (lcmpW x y) = true := by
  rw [if0, if0]
  have q : ¬ lcmpW x y < 0 := fun q => h ((lw_lt x y).mp q)
  exact ⟨(flt q).1, (flt q).2.1⟩
theorem own_l4 {x y : Int64} (h : y < x) : ifCond.holds .gt (lcmpW x y) = true ∧ ifCond.holds .le (lcmpW x y) = false := by rw [if0, if0]; exact ⟨(tlt ((lw_gt x y).mpr h)).2.2.1, (tlt ((lw_gt x y).mpr h)).2.2.2⟩
theorem own_l5 {x y : Int64} (h : ¬ y < x) : ifCond.holds .gt (lcmpW x y) = false ∧ ifCond.holds .le (lcmpW x y) = true := by
  rw [if0, if0]
  have q : ¬ 0 < lcmpW x y := fun q => h ((lw_gt x y).mp q)
  exact ⟨(flt q).2.2.1, (flt q).2.2.2⟩
end OwnKit
theorem own_eqI {args : Array Value} {first s : State} {o : Option Outcome} {idx : List Nat} {t : Term} {k : Int32} (h : (Jvm.Cond.eq t (Term.int k)).value args first o s idx = some true) : t.eval args first o idx s = some (.int k) := by
  simp only [Jvm.Cond.value, Term.int_eval] at h
  cases ht : t.eval args first o idx s with
  | none => simp [ht] at h
  | some x => cases x <;> simp [ht] at h ⊢; exact h

theorem d1_0 : decode prog_59_method_4_code 0 = .ok (.aload_n 0, 1) := by decide +kernel
theorem d1_1 : decode prog_59_method_4_code 1 = .ok (.getstatic 3, 3) := by decide +kernel
theorem d1_4 : decode prog_59_method_4_code 4 = .ok (.if_acmp .ne 9, 3) := by decide +kernel
theorem d1_7 : decode prog_59_method_4_code 7 = .ok (.getstatic 7, 3) := by decide +kernel
theorem d1_10 : decode prog_59_method_4_code 10 = .ok (.goto 6, 3) := by decide +kernel
theorem d1_13 : decode prog_59_method_4_code 13 = .ok (.getstatic 3, 3) := by decide +kernel
theorem d1_16 : decode prog_59_method_4_code 16 = .ok (.areturn, 1) := by decide +kernel
theorem pn_1 : plainName "com/example/damarium/damarium/rules/Side" = true := by first | (simp [plainName, overriddenIn]; done) | decide +kernel
theorem ef_1 (m : MethodId) (a1 : Addr) : entryFrame m #[(.ref a1)] 1 = mkF m 0 #[.val (.ref a1)] [] := by first | (simp [entryFrame, mkF, argsToLocals, Value.category]; done) | rfl
def Q1 (Z : State) (a1 : Addr) (wh : Addr) (bl : Addr) (h0 : Heap) (n0 : Nat) (v : Option Value) (h : Heap) (L : List Loc) : Prop := v = some (.ref (if a1 = wh then bl else wh)) ∧ Fr n0 L ∧ h = h0
set_option maxRecDepth 65536 in
set_option maxHeartbeats 40000000 in
theorem rm1 (l : Launch) (Z : State) (a0 : Array Value) (hw : ∀ d ∈ tables_1, d.before a0 Z = true) (ws : List Jvm.Cond) (a1 : Addr) (wh : Addr) (bl : Addr) (h0 : Heap) (n0 : Nat) (Z0 : n0 ≤ h0.size) (S1 : Sta Z h0 "com/example/damarium/damarium/rules/Side" "WHITE" "Lcom/example/damarium/damarium/rules/Side;" (.ref wh)) (S2 : Sta Z h0 "com/example/damarium/damarium/rules/Side" "BLACK" "Lcom/example/damarium/damarium/rules/Side;" (.ref bl)) :
    MetFree l (⟨"com/example/damarium/damarium/rules/Side", "opponent", "()Lcom/example/damarium/damarium/rules/Side;"⟩ : MethodName) (head1 (Jvm.Cond.code (⟨"com/example/damarium/damarium/rules/Side", "opponent", "()Lcom/example/damarium/damarium/rules/Side;"⟩ : MethodName) prog_59_method_4_code 1 (some (.object "com/example/damarium/damarium/rules/Side")) :: ws) ({ frames := 0, cells := 0, slots := 0, locals := 0 } : Room)) (fun a U => a = #[(.ref a1)] ∧ Z.Warmed39 U.vm ∧ U.heap = h0) (fun _ _ _ _ _ => True) (fun _ U o U' => ∃ v L, o = .returned v ∧ Q1 Z a1 wh bl h0 n0 v U'.heap L ∧ FrameEnd U o U' L ({ frames := 0, cells := 0, slots := 0, locals := 0 } : Room).cells ({ frames := 0, cells := 0, slots := 0, locals := 0 } : Room).slots) := by
  refine MetFree.of_bodySF (plainFor_of_name pn_1) hisR ?_
  intro p e s m args below meth c s₁ Bd hml0 hP hK
  obtain ⟨rfl, hZ, hh⟩ := hP
  have hx := Bd.exec
  have hby := Bd.bytes
  have hlk := Bd.notSynchronized
  have hml : c.maxLocals = 1 := hml0
  have hown : s.vm.findClass "com/example/damarium/damarium/rules/Side" = some m.cls := findClass_of_methodNamed Bd.named
  have hnm := (name_of_methodNamed Bd.named Bd.method).1
  have X0 : Stand p l e ({ frames := 0, cells := 0, slots := 0, locals := 0 } : Room) s m #[(.ref a1)] below meth c s₁ [] 0 0 := Stand.of_body Bd
  have e0 : s₁.heap = h0 := by rw [← hh, Bd.state]; rfl
  have N0 := Fr.nil n0
  show Goes p e below s 0 0 (Q1 Z a1 wh bl h0 n0) s₁ (entryFrame m #[(.ref a1)] 1)
  refine goEq (ef_1 m a1) ?_
  refine go (T' := s₁) (g' := (mkF m 1 #[.val (.ref a1)] [(.ref a1)])) (fun t kt => XS.aloadN X0.here hx rfl (hb hby d1_0) rfl rfl kt) ?_
  obtain ⟨T1001, X1001, e1001, st1001⟩ := getS2 X0 hx hZ hown (host := "") (Or.inl (hw _ (List.mem_of_getElem? (i := 10) rfl))) Via.refl e0 S1 (g := (mkF m 1 #[.val (.ref a1)] [(.ref a1)])) rfl (hb hby d1_1)
  refine go (T' := T1001) (g' := (mkF m 4 #[.val (.ref a1)] [(.ref wh), (.ref a1)])) st1001 ?_
  by_cases hq : a1 = wh
  · refine go (T' := T1001) (g' := (mkF m 7 #[.val (.ref a1)] [])) (fun t kt => Jvm.RoadKit.acmp (g := (mkF m 4 #[.val (.ref a1)] [(.ref wh), (.ref a1)])) X1001 hx rfl rfl rfl (pc0 := 4) (pc' := 7) (same := true) rfl (hb hby d1_4) rfl (decide_eq_true (congrArg Value.ref hq)) (by decide) (by decide) kt) ?_
    obtain ⟨T1002, X1002, e1002, st1002⟩ := getS2 X1001 hx hZ hown (host := "") (Or.inl (hw _ (List.mem_of_getElem? (i := 11) rfl))) Via.refl e1001 S2 (g := (mkF m 7 #[.val (.ref a1)] [])) rfl (hb hby d1_7)
    refine go (T' := T1002) (g' := (mkF m 10 #[.val (.ref a1)] [(.ref bl)])) st1002 ?_
    refine go (T' := T1002) (g' := (mkF m 16 #[.val (.ref a1)] [(.ref bl)])) (fun t kt => XS.goto X1002.here hx rfl (pc0 := 10) (pc' := 16) rfl (hb hby d1_10) (by decide) (by decide) kt) ?_
    refine goRetA X1002 hx hlk Bd.returns rfl rfl rfl (hb hby d1_16) ?_ (by decide) (by decide)
    rw [e1002]
    exact ⟨by rw [if_pos hq], N0, rfl⟩
  · refine go (T' := T1001) (g' := (mkF m 13 #[.val (.ref a1)] [])) (fun t kt => Jvm.RoadKit.acmp (g := (mkF m 4 #[.val (.ref a1)] [(.ref wh), (.ref a1)])) X1001 hx rfl rfl rfl (pc0 := 4) (pc' := 13) (same := false) rfl (hb hby d1_4) rfl (decide_eq_false fun q => hq (Value.ref.inj q)) (by decide) (by decide) kt) ?_
    obtain ⟨T1003, X1003, e1003, st1003⟩ := getS2 X1001 hx hZ hown (host := "") (Or.inl (hw _ (List.mem_of_getElem? (i := 10) rfl))) Via.refl e1001 S1 (g := (mkF m 13 #[.val (.ref a1)] [])) rfl (hb hby d1_13)
    refine go (T' := T1003) (g' := (mkF m 16 #[.val (.ref a1)] [(.ref wh)])) st1003 ?_
    refine goRetA X1003 hx hlk Bd.returns rfl rfl rfl (hb hby d1_16) ?_ (by decide) (by decide)
    rw [e1003]
    exact ⟨by rw [if_neg hq], N0, rfl⟩
theorem pd_0 : parseMethodDescriptor "()Lcom/example/damarium/damarium/rules/Side;" = some ⟨[], some (.object "com/example/damarium/damarium/rules/Side")⟩ := by decide +kernel
theorem pn_0 : plainName "com/example/damarium/damarium/rules/SideOpponentPinLaw" = true := by first | (simp [plainName, overriddenIn]; done) | decide +kernel
theorem ef_0 (m : MethodId) (p1 : Int32) : entryFrame m #[(.int p1)] maxLocals = mkF m 0 #[.val (.int p1), .unset, .unset, .unset, .unset] [] := by first | (simp [entryFrame, mkF, argsToLocals, Value.category, maxLocals]; done) | rfl
def Q0 (Z : State) (p1 : Int32) (wh : Addr) (bl : Addr) (h0 : Heap) (n0 : Nat) (v : Option Value) (h : Heap) (L : List Loc) : Prop := v = some (.int 1) ∧ Fr n0 L
set_option maxRecDepth 65536 in
set_option maxHeartbeats 40000000 in
theorem rm0 (l : Launch) (Z : State) (a0 : Array Value) (hw : ∀ d ∈ tables_1, d.before a0 Z = true) (ws : List Jvm.Cond) (p1 : Int32) (wh : Addr) (bl : Addr) (h0 : Heap) (n0 : Nat) (Z0 : n0 ≤ h0.size) (S1 : Sta Z h0 "com/example/damarium/damarium/rules/Side" "WHITE" "Lcom/example/damarium/damarium/rules/Side;" (.ref wh)) (S2 : Sta Z h0 "com/example/damarium/damarium/rules/Side" "BLACK" "Lcom/example/damarium/damarium/rules/Side;" (.ref bl)) (E1 : Exa Z h0 wh "com/example/damarium/damarium/rules/Side") (E2 : Exa Z h0 bl "com/example/damarium/damarium/rules/Side") (hne : ¬ (wh = bl)) :
    MetFree l x (head1 (Jvm.Cond.code x code maxLocals ret :: ws) room_1) (fun a U => a = #[(.int p1)] ∧ Z.Warmed39 U.vm ∧ U.heap = h0) (fun _ _ _ _ _ => True) (fun _ U o U' => ∃ v L, o = .returned v ∧ Q0 Z p1 wh bl h0 n0 v U'.heap L ∧ FrameEnd U o U' L 0 0) := by
  refine MetFree.of_bodySF (plainFor_of_name pn_0) hisR ?_
  intro p e s m args below meth c s₁ Bd hml0 hP hK
  obtain ⟨rfl, hZ, hh⟩ := hP
  have hx := Bd.exec
  have hby := Bd.bytes
  have hlk := Bd.notSynchronized
  have hml : c.maxLocals = 5 := hml0
  have hown : s.vm.findClass "com/example/damarium/damarium/rules/SideOpponentPinLaw" = some m.cls := findClass_of_methodNamed Bd.named
  have hnm := (name_of_methodNamed Bd.named Bd.method).1
  have X0 : Stand p l e room_1 s m #[(.int p1)] below meth c s₁ [] 0 0 := Stand.of_body Bd
  have e0 : s₁.heap = h0 := by rw [← hh, Bd.state]; rfl
  have N0 := Fr.nil n0
  show Goes p e below s 0 0 (Q0 Z p1 wh bl h0 n0) s₁ (entryFrame m #[(.int p1)] maxLocals)
  refine goEq (ef_0 m p1) ?_
  refine go (T' := s₁) (g' := (mkF m 1 #[.val (.int p1), .unset, .unset, .unset, .unset] [(.int p1)])) (fun t kt => XS.iloadN X0.here hx rfl (hb hby at_0) rfl kt) ?_
  refine go (T' := s₁) (g' := (mkF m 2 #[.val (.int p1), .unset, .unset, .unset, .unset] [(.int (1 : Int32)), (.int p1)])) (fun t kt => XS.iconst X0.here hx rfl (hb hby at_1) kt) ?_
  refine go (T' := s₁) (g' := (mkF m 3 #[.val (.int p1), .unset, .unset, .unset, .unset] [(.int (p1 &&& (1 : Int32)))])) (fun t kt => XS.iand X0.here hx rfl (hb hby at_2) rfl kt) ?_
  by_cases hp : (p1 &&& (1 : Int32)) = (0 : Int32)
  · refine go (T' := s₁) (g' := (mkF m 6 #[.val (.int p1), .unset, .unset, .unset, .unset] [])) (fun t kt => XS.ifNo X0.here hx rfl (hb hby at_3) rfl ((if0 _ _).trans (teq hp).2) kt) ?_
    refine go (T' := s₁) (g' := (mkF m 7 #[.val (.int p1), .unset, .unset, .unset, .unset] [(.int (1 : Int32))])) (fun t kt => XS.iconst X0.here hx rfl (hb hby at_6) kt) ?_
    refine go (T' := s₁) (g' := (mkF m 11 #[.val (.int p1), .unset, .unset, .unset, .unset] [(.int (1 : Int32))])) (fun t kt => XS.goto X0.here hx rfl (pc0 := 7) (pc' := 11) rfl (hb hby at_7) (by decide) (by decide) kt) ?_
    refine go (T' := s₁) (g' := (mkF m 12 #[.val (.int p1), .val (.int (1 : Int32)), .unset, .unset, .unset] [])) (fun t kt => XS.istoreN X0.here hx rfl (hb hby at_11) rfl (l' := #[.val (.int p1), .val (.int (1 : Int32)), .unset, .unset, .unset]) rfl kt) ?_
    refine go (T' := s₁) (g' := (mkF m 13 #[.val (.int p1), .val (.int (1 : Int32)), .unset, .unset, .unset] [(.int (1 : Int32))])) (fun t kt => XS.iloadN X0.here hx rfl (hb hby at_12) rfl kt) ?_
    refine go (T' := s₁) (g' := (mkF m 16 #[.val (.int p1), .val (.int (1 : Int32)), .unset, .unset, .unset] [])) (fun t kt => XS.ifNo X0.here hx rfl (hb hby at_13) rfl ((if0 _ _).trans (feq (by decide)).1) kt) ?_
    obtain ⟨T1004, X1004, e1004, st1004⟩ := getS2 X0 hx hZ hown (host := "") (Or.inl (hw _ (List.mem_of_getElem? (i := 0) rfl))) Via.refl e0 S1 (g := (mkF m 16 #[.val (.int p1), .val (.int (1 : Int32)), .unset, .unset, .unset] [])) rfl (hb hby at_16)
    refine go (T' := T1004) (g' := (mkF m 19 #[.val (.int p1), .val (.int (1 : Int32)), .unset, .unset, .unset] [(.ref wh)])) st1004 ?_
    refine go (T' := T1004) (g' := (mkF m 25 #[.val (.int p1), .val (.int (1 : Int32)), .unset, .unset, .unset] [(.ref wh)])) (fun t kt => XS.goto X1004.here hx rfl (pc0 := 19) (pc' := 25) rfl (hb hby at_19) (by decide) (by decide) kt) ?_
    refine go (T' := T1004) (g' := (mkF m 26 #[.val (.int p1), .val (.int (1 : Int32)), .val (.ref wh), .unset, .unset] [])) (fun t kt => XS.astoreN X1004.here hx rfl (hb hby at_25) rfl rfl (l' := #[.val (.int p1), .val (.int (1 : Int32)), .val (.ref wh), .unset, .unset]) rfl kt) ?_
    refine go (T' := T1004) (g' := (mkF m 27 #[.val (.int p1), .val (.int (1 : Int32)), .val (.ref wh), .unset, .unset] [(.int (1 : Int32))])) (fun t kt => XS.iloadN X1004.here hx rfl (hb hby at_26) rfl kt) ?_
    refine go (T' := T1004) (g' := (mkF m 30 #[.val (.int p1), .val (.int (1 : Int32)), .val (.ref wh), .unset, .unset] [])) (fun t kt => XS.ifNo X1004.here hx rfl (hb hby at_27) rfl ((if0 _ _).trans (feq (by decide)).1) kt) ?_
    obtain ⟨T1005, X1005, e1005, st1005⟩ := getS2 X1004 hx hZ hown (host := "") (Or.inl (hw _ (List.mem_of_getElem? (i := 3) rfl))) Via.refl e1004 S2 (g := (mkF m 30 #[.val (.int p1), .val (.int (1 : Int32)), .val (.ref wh), .unset, .unset] [])) rfl (hb hby at_30)
    refine go (T' := T1005) (g' := (mkF m 33 #[.val (.int p1), .val (.int (1 : Int32)), .val (.ref wh), .unset, .unset] [(.ref bl)])) st1005 ?_
    refine go (T' := T1005) (g' := (mkF m 39 #[.val (.int p1), .val (.int (1 : Int32)), .val (.ref wh), .unset, .unset] [(.ref bl)])) (fun t kt => XS.goto X1005.here hx rfl (pc0 := 33) (pc' := 39) rfl (hb hby at_33) (by decide) (by decide) kt) ?_
    refine go (T' := T1005) (g' := (mkF m 40 #[.val (.int p1), .val (.int (1 : Int32)), .val (.ref wh), .val (.ref bl), .unset] [])) (fun t kt => XS.astoreN X1005.here hx rfl (hb hby at_39) rfl rfl (l' := #[.val (.int p1), .val (.int (1 : Int32)), .val (.ref wh), .val (.ref bl), .unset]) rfl kt) ?_
    refine go (T' := T1005) (g' := (mkF m 41 #[.val (.int p1), .val (.int (1 : Int32)), .val (.ref wh), .val (.ref bl), .unset] [(.ref wh)])) (fun t kt => XS.aloadN X1005.here hx rfl (hb hby at_40) rfl rfl kt) ?_
    obtain ⟨cq1006, kq1006, q1006a, q1006b, q1006c⟩ := isOf hZ e1005 E1
    obtain ⟨_, _, ⟨T1006, L1006, k1006, n1006⟩, -, X1006, ⟨Lc1006, hQ1006, l1006, y1006, z1006⟩, st1006⟩ := X1005.virtualBack hx (y := (⟨"com/example/damarium/damarium/rules/Side", "opponent", "()Lcom/example/damarium/damarium/rules/Side;"⟩ : MethodName)) (z := (⟨"com/example/damarium/damarium/rules/Side", "opponent", "()Lcom/example/damarium/damarium/rules/Side;"⟩ : MethodName)) hown (mvT hZ (hw _ (List.mem_of_getElem? (i := 5) rfl))) (mvT hZ (hw _ (List.mem_of_getElem? (i := 6) rfl))) (notFace_of_selects (args := #[]) (mvT hZ (hw _ (List.mem_of_getElem? (i := 8) rfl)))) (mvT hZ (hw _ (List.mem_of_getElem? (i := 8) rfl))) (mvT hZ (hw _ (List.mem_of_getElem? (i := 7) rfl))) (by decide) (backOf (W := 0) (rm1 l Z a0 hw [] wh wh bl h0 n0 Z0 S1 S2) hZ (hw _ (List.mem_of_getElem? (i := 9) rfl)) (hw _ (List.mem_of_getElem? (i := 1) rfl)) (by decide) (by decide)) q1006a q1006c (g := (mkF m 41 #[.val (.int p1), .val (.int (1 : Int32)), .val (.ref wh), .val (.ref bl), .unset] [(.ref wh)])) rfl (by rw [hml]; rfl) (Steps.refl _) (argsL := []) (rest := []) (lenOf pd_0 rfl) rfl (by show 2 * 0 + _ ≤ _; exact Nat.le_of_eq rfl) (hb hby at_41) (fun _ _ => ⟨rfl, e1005, (by decide : 0 + 0 ≤ _), (by decide : 0 + 0 ≤ _)⟩)
    dsimp only [Pt.U, Pt.locs, Pt.cells, Pt.slots] at X1006 l1006 y1006 z1006 st1006 hQ1006
    subst l1006 y1006 z1006
    obtain ⟨rfl, N1006q, e1006⟩ := hQ1006
    have N1006 := Fr.app N0 N1006q
    refine goV (T' := T1006) (g' := (mkF m 44 #[.val (.int p1), .val (.int (1 : Int32)), .val (.ref wh), .val (.ref bl), .unset] [(.ref (if wh = wh then bl else wh))])) st1006 ?_
    refine goEq (g' := (mkF m 44 #[.val (.int p1), .val (.int (1 : Int32)), .val (.ref wh), .val (.ref bl), .unset] [(.ref bl)])) (by rw [if_pos rfl]) ?_
    refine go (T' := T1006) (g' := (mkF m 46 #[.val (.int p1), .val (.int (1 : Int32)), .val (.ref wh), .val (.ref bl), .val (.ref bl)] [])) (fun t kt => XS.astore X1006.here hx rfl (hb hby at_44) rfl rfl (l' := #[.val (.int p1), .val (.int (1 : Int32)), .val (.ref wh), .val (.ref bl), .val (.ref bl)]) rfl kt) ?_
    refine go (T' := T1006) (g' := (mkF m 48 #[.val (.int p1), .val (.int (1 : Int32)), .val (.ref wh), .val (.ref bl), .val (.ref bl)] [(.ref bl)])) (fun t kt => XS.aload X1006.here hx rfl (hb hby at_46) rfl rfl kt) ?_
    refine go (T' := T1006) (g' := (mkF m 53 #[.val (.int p1), .val (.int (1 : Int32)), .val (.ref wh), .val (.ref bl), .val (.ref bl)] [])) (fun t kt => XS.ifnonnullYes X1006.here hx rfl (pc0 := 48) (pc' := 53) rfl (hb hby at_48) rfl (by decide) (by decide) kt) ?_
    refine go (T' := T1006) (g' := (mkF m 55 #[.val (.int p1), .val (.int (1 : Int32)), .val (.ref wh), .val (.ref bl), .val (.ref bl)] [(.ref bl)])) (fun t kt => XS.aload X1006.here hx rfl (hb hby at_53) rfl rfl kt) ?_
    refine go (T' := T1006) (g' := (mkF m 56 #[.val (.int p1), .val (.int (1 : Int32)), .val (.ref wh), .val (.ref bl), .val (.ref bl)] [(.ref bl), (.ref bl)])) (fun t kt => XS.aloadN X1006.here hx rfl (hb hby at_55) rfl rfl kt) ?_
    refine go (T' := T1006) (g' := (mkF m 61 #[.val (.int p1), .val (.int (1 : Int32)), .val (.ref wh), .val (.ref bl), .val (.ref bl)] [])) (fun t kt => Jvm.RoadKit.acmp (g := (mkF m 56 #[.val (.int p1), .val (.int (1 : Int32)), .val (.ref wh), .val (.ref bl), .val (.ref bl)] [(.ref bl), (.ref bl)])) X1006 hx rfl rfl rfl (pc0 := 56) (pc' := 61) (same := true) rfl (hb hby at_56) rfl (decide_eq_true rfl) (by decide) (by decide) kt) ?_
    refine go (T' := T1006) (g' := (mkF m 63 #[.val (.int p1), .val (.int (1 : Int32)), .val (.ref wh), .val (.ref bl), .val (.ref bl)] [(.ref bl)])) (fun t kt => XS.aload X1006.here hx rfl (hb hby at_61) rfl rfl kt) ?_
    refine go (T' := T1006) (g' := (mkF m 64 #[.val (.int p1), .val (.int (1 : Int32)), .val (.ref wh), .val (.ref bl), .val (.ref bl)] [(.ref wh), (.ref bl)])) (fun t kt => XS.aloadN X1006.here hx rfl (hb hby at_63) rfl rfl kt) ?_
    refine go (T' := T1006) (g' := (mkF m 69 #[.val (.int p1), .val (.int (1 : Int32)), .val (.ref wh), .val (.ref bl), .val (.ref bl)] [])) (fun t kt => Jvm.RoadKit.acmp (g := (mkF m 64 #[.val (.int p1), .val (.int (1 : Int32)), .val (.ref wh), .val (.ref bl), .val (.ref bl)] [(.ref wh), (.ref bl)])) X1006 hx rfl rfl rfl (pc0 := 64) (pc' := 69) (same := false) rfl (hb hby at_64) rfl (decide_eq_false fun q => hne (Value.ref.inj q).symm) (by decide) (by decide) kt) ?_
    refine go (T' := T1006) (g' := (mkF m 71 #[.val (.int p1), .val (.int (1 : Int32)), .val (.ref wh), .val (.ref bl), .val (.ref bl)] [(.ref bl)])) (fun t kt => XS.aload X1006.here hx rfl (hb hby at_69) rfl rfl kt) ?_
    obtain ⟨cq1007, kq1007, q1007a, q1007b, q1007c⟩ := isOf hZ e1006 E2
    obtain ⟨_, _, ⟨T1007, L1007, k1007, n1007⟩, -, X1007, ⟨Lc1007, hQ1007, l1007, y1007, z1007⟩, st1007⟩ := X1006.virtualBack hx (y := (⟨"com/example/damarium/damarium/rules/Side", "opponent", "()Lcom/example/damarium/damarium/rules/Side;"⟩ : MethodName)) (z := (⟨"com/example/damarium/damarium/rules/Side", "opponent", "()Lcom/example/damarium/damarium/rules/Side;"⟩ : MethodName)) hown (mvT hZ (hw _ (List.mem_of_getElem? (i := 5) rfl))) (mvT hZ (hw _ (List.mem_of_getElem? (i := 6) rfl))) (notFace_of_selects (args := #[]) (mvT hZ (hw _ (List.mem_of_getElem? (i := 8) rfl)))) (mvT hZ (hw _ (List.mem_of_getElem? (i := 8) rfl))) (mvT hZ (hw _ (List.mem_of_getElem? (i := 7) rfl))) (by decide) (backOf (W := 0) (rm1 l Z a0 hw [] bl wh bl h0 n0 Z0 S1 S2) hZ (hw _ (List.mem_of_getElem? (i := 9) rfl)) (hw _ (List.mem_of_getElem? (i := 1) rfl)) (by decide) (by decide)) q1007a q1007c (g := (mkF m 71 #[.val (.int p1), .val (.int (1 : Int32)), .val (.ref wh), .val (.ref bl), .val (.ref bl)] [(.ref bl)])) rfl (by rw [hml]; rfl) (Steps.refl _) (argsL := []) (rest := []) (lenOf pd_0 rfl) rfl (by show 2 * 0 + _ ≤ _; exact Nat.le_of_eq rfl) (hb hby at_71) (fun _ _ => ⟨rfl, e1006, (by decide : 0 + 0 ≤ _), (by decide : 0 + 0 ≤ _)⟩)
    dsimp only [Pt.U, Pt.locs, Pt.cells, Pt.slots] at X1007 l1007 y1007 z1007 st1007 hQ1007
    subst l1007 y1007 z1007
    obtain ⟨rfl, N1007q, e1007⟩ := hQ1007
    have N1007 := Fr.app N1006 N1007q
    refine goV (T' := T1007) (g' := (mkF m 74 #[.val (.int p1), .val (.int (1 : Int32)), .val (.ref wh), .val (.ref bl), .val (.ref bl)] [(.ref (if bl = wh then bl else wh))])) st1007 ?_
    refine goEq (g' := (mkF m 74 #[.val (.int p1), .val (.int (1 : Int32)), .val (.ref wh), .val (.ref bl), .val (.ref bl)] [(.ref wh)])) (by rw [if_neg (fun q => hne q.symm)]) ?_
    refine go (T' := T1007) (g' := (mkF m 75 #[.val (.int p1), .val (.int (1 : Int32)), .val (.ref wh), .val (.ref bl), .val (.ref bl)] [(.ref wh), (.ref wh)])) (fun t kt => XS.aloadN X1007.here hx rfl (hb hby at_74) rfl rfl kt) ?_
    refine go (T' := T1007) (g' := (mkF m 78 #[.val (.int p1), .val (.int (1 : Int32)), .val (.ref wh), .val (.ref bl), .val (.ref bl)] [])) (fun t kt => Jvm.RoadKit.acmp (g := (mkF m 75 #[.val (.int p1), .val (.int (1 : Int32)), .val (.ref wh), .val (.ref bl), .val (.ref bl)] [(.ref wh), (.ref wh)])) X1007 hx rfl rfl rfl (pc0 := 75) (pc' := 78) (same := true) rfl (hb hby at_75) rfl (decide_eq_true rfl) (by decide) (by decide) kt) ?_
    refine go (T' := T1007) (g' := (mkF m 79 #[.val (.int p1), .val (.int (1 : Int32)), .val (.ref wh), .val (.ref bl), .val (.ref bl)] [(.int (1 : Int32))])) (fun t kt => XS.iconst X1007.here hx rfl (hb hby at_78) kt) ?_
    refine go (T' := T1007) (g' := (mkF m 83 #[.val (.int p1), .val (.int (1 : Int32)), .val (.ref wh), .val (.ref bl), .val (.ref bl)] [(.int (1 : Int32))])) (fun t kt => XS.goto X1007.here hx rfl (pc0 := 79) (pc' := 83) rfl (hb hby at_79) (by decide) (by decide) kt) ?_
    refine goRetN X1007 hx hlk (t := .boolean) Bd.returns (by simp) (hb hby at_83) ?_ (by decide) (by decide)
    rw [e1007]
    exact ⟨rfl, N1007⟩
  · refine go (T' := s₁) (g' := (mkF m 10 #[.val (.int p1), .unset, .unset, .unset, .unset] [])) (fun t kt => XS.ifYes X0.here hx rfl (pc0 := 3) (pc' := 10) rfl (hb hby at_3) rfl ((if0 _ _).trans (feq hp).2) (by decide) (by decide) kt) ?_
    refine go (T' := s₁) (g' := (mkF m 11 #[.val (.int p1), .unset, .unset, .unset, .unset] [(.int (0 : Int32))])) (fun t kt => XS.iconst X0.here hx rfl (hb hby at_10) kt) ?_
    refine go (T' := s₁) (g' := (mkF m 12 #[.val (.int p1), .val (.int (0 : Int32)), .unset, .unset, .unset] [])) (fun t kt => XS.istoreN X0.here hx rfl (hb hby at_11) rfl (l' := #[.val (.int p1), .val (.int (0 : Int32)), .unset, .unset, .unset]) rfl kt) ?_
    refine go (T' := s₁) (g' := (mkF m 13 #[.val (.int p1), .val (.int (0 : Int32)), .unset, .unset, .unset] [(.int (0 : Int32))])) (fun t kt => XS.iloadN X0.here hx rfl (hb hby at_12) rfl kt) ?_
    refine go (T' := s₁) (g' := (mkF m 22 #[.val (.int p1), .val (.int (0 : Int32)), .unset, .unset, .unset] [])) (fun t kt => XS.ifYes X0.here hx rfl (pc0 := 13) (pc' := 22) rfl (hb hby at_13) rfl ((if0 _ _).trans (teq rfl).1) (by decide) (by decide) kt) ?_
    obtain ⟨T1008, X1008, e1008, st1008⟩ := getS2 X0 hx hZ hown (host := "") (Or.inl (hw _ (List.mem_of_getElem? (i := 3) rfl))) Via.refl e0 S2 (g := (mkF m 22 #[.val (.int p1), .val (.int (0 : Int32)), .unset, .unset, .unset] [])) rfl (hb hby at_22)
    refine go (T' := T1008) (g' := (mkF m 25 #[.val (.int p1), .val (.int (0 : Int32)), .unset, .unset, .unset] [(.ref bl)])) st1008 ?_
    refine go (T' := T1008) (g' := (mkF m 26 #[.val (.int p1), .val (.int (0 : Int32)), .val (.ref bl), .unset, .unset] [])) (fun t kt => XS.astoreN X1008.here hx rfl (hb hby at_25) rfl rfl (l' := #[.val (.int p1), .val (.int (0 : Int32)), .val (.ref bl), .unset, .unset]) rfl kt) ?_
    refine go (T' := T1008) (g' := (mkF m 27 #[.val (.int p1), .val (.int (0 : Int32)), .val (.ref bl), .unset, .unset] [(.int (0 : Int32))])) (fun t kt => XS.iloadN X1008.here hx rfl (hb hby at_26) rfl kt) ?_
    refine go (T' := T1008) (g' := (mkF m 36 #[.val (.int p1), .val (.int (0 : Int32)), .val (.ref bl), .unset, .unset] [])) (fun t kt => XS.ifYes X1008.here hx rfl (pc0 := 27) (pc' := 36) rfl (hb hby at_27) rfl ((if0 _ _).trans (teq rfl).1) (by decide) (by decide) kt) ?_
    obtain ⟨T1009, X1009, e1009, st1009⟩ := getS2 X1008 hx hZ hown (host := "") (Or.inl (hw _ (List.mem_of_getElem? (i := 0) rfl))) Via.refl e1008 S1 (g := (mkF m 36 #[.val (.int p1), .val (.int (0 : Int32)), .val (.ref bl), .unset, .unset] [])) rfl (hb hby at_36)
    refine go (T' := T1009) (g' := (mkF m 39 #[.val (.int p1), .val (.int (0 : Int32)), .val (.ref bl), .unset, .unset] [(.ref wh)])) st1009 ?_
    refine go (T' := T1009) (g' := (mkF m 40 #[.val (.int p1), .val (.int (0 : Int32)), .val (.ref bl), .val (.ref wh), .unset] [])) (fun t kt => XS.astoreN X1009.here hx rfl (hb hby at_39) rfl rfl (l' := #[.val (.int p1), .val (.int (0 : Int32)), .val (.ref bl), .val (.ref wh), .unset]) rfl kt) ?_
    refine go (T' := T1009) (g' := (mkF m 41 #[.val (.int p1), .val (.int (0 : Int32)), .val (.ref bl), .val (.ref wh), .unset] [(.ref bl)])) (fun t kt => XS.aloadN X1009.here hx rfl (hb hby at_40) rfl rfl kt) ?_
    obtain ⟨cq1010, kq1010, q1010a, q1010b, q1010c⟩ := isOf hZ e1009 E2
    obtain ⟨_, _, ⟨T1010, L1010, k1010, n1010⟩, -, X1010, ⟨Lc1010, hQ1010, l1010, y1010, z1010⟩, st1010⟩ := X1009.virtualBack hx (y := (⟨"com/example/damarium/damarium/rules/Side", "opponent", "()Lcom/example/damarium/damarium/rules/Side;"⟩ : MethodName)) (z := (⟨"com/example/damarium/damarium/rules/Side", "opponent", "()Lcom/example/damarium/damarium/rules/Side;"⟩ : MethodName)) hown (mvT hZ (hw _ (List.mem_of_getElem? (i := 5) rfl))) (mvT hZ (hw _ (List.mem_of_getElem? (i := 6) rfl))) (notFace_of_selects (args := #[]) (mvT hZ (hw _ (List.mem_of_getElem? (i := 8) rfl)))) (mvT hZ (hw _ (List.mem_of_getElem? (i := 8) rfl))) (mvT hZ (hw _ (List.mem_of_getElem? (i := 7) rfl))) (by decide) (backOf (W := 0) (rm1 l Z a0 hw [] bl wh bl h0 n0 Z0 S1 S2) hZ (hw _ (List.mem_of_getElem? (i := 9) rfl)) (hw _ (List.mem_of_getElem? (i := 1) rfl)) (by decide) (by decide)) q1010a q1010c (g := (mkF m 41 #[.val (.int p1), .val (.int (0 : Int32)), .val (.ref bl), .val (.ref wh), .unset] [(.ref bl)])) rfl (by rw [hml]; rfl) (Steps.refl _) (argsL := []) (rest := []) (lenOf pd_0 rfl) rfl (by show 2 * 0 + _ ≤ _; exact Nat.le_of_eq rfl) (hb hby at_41) (fun _ _ => ⟨rfl, e1009, (by decide : 0 + 0 ≤ _), (by decide : 0 + 0 ≤ _)⟩)
    dsimp only [Pt.U, Pt.locs, Pt.cells, Pt.slots] at X1010 l1010 y1010 z1010 st1010 hQ1010
    subst l1010 y1010 z1010
    obtain ⟨rfl, N1010q, e1010⟩ := hQ1010
    have N1010 := Fr.app N0 N1010q
    refine goV (T' := T1010) (g' := (mkF m 44 #[.val (.int p1), .val (.int (0 : Int32)), .val (.ref bl), .val (.ref wh), .unset] [(.ref (if bl = wh then bl else wh))])) st1010 ?_
    refine goEq (g' := (mkF m 44 #[.val (.int p1), .val (.int (0 : Int32)), .val (.ref bl), .val (.ref wh), .unset] [(.ref wh)])) (by rw [if_neg (fun q => hne q.symm)]) ?_
    refine go (T' := T1010) (g' := (mkF m 46 #[.val (.int p1), .val (.int (0 : Int32)), .val (.ref bl), .val (.ref wh), .val (.ref wh)] [])) (fun t kt => XS.astore X1010.here hx rfl (hb hby at_44) rfl rfl (l' := #[.val (.int p1), .val (.int (0 : Int32)), .val (.ref bl), .val (.ref wh), .val (.ref wh)]) rfl kt) ?_
    refine go (T' := T1010) (g' := (mkF m 48 #[.val (.int p1), .val (.int (0 : Int32)), .val (.ref bl), .val (.ref wh), .val (.ref wh)] [(.ref wh)])) (fun t kt => XS.aload X1010.here hx rfl (hb hby at_46) rfl rfl kt) ?_
    refine go (T' := T1010) (g' := (mkF m 53 #[.val (.int p1), .val (.int (0 : Int32)), .val (.ref bl), .val (.ref wh), .val (.ref wh)] [])) (fun t kt => XS.ifnonnullYes X1010.here hx rfl (pc0 := 48) (pc' := 53) rfl (hb hby at_48) rfl (by decide) (by decide) kt) ?_
    refine go (T' := T1010) (g' := (mkF m 55 #[.val (.int p1), .val (.int (0 : Int32)), .val (.ref bl), .val (.ref wh), .val (.ref wh)] [(.ref wh)])) (fun t kt => XS.aload X1010.here hx rfl (hb hby at_53) rfl rfl kt) ?_
    refine go (T' := T1010) (g' := (mkF m 56 #[.val (.int p1), .val (.int (0 : Int32)), .val (.ref bl), .val (.ref wh), .val (.ref wh)] [(.ref wh), (.ref wh)])) (fun t kt => XS.aloadN X1010.here hx rfl (hb hby at_55) rfl rfl kt) ?_
    refine go (T' := T1010) (g' := (mkF m 61 #[.val (.int p1), .val (.int (0 : Int32)), .val (.ref bl), .val (.ref wh), .val (.ref wh)] [])) (fun t kt => Jvm.RoadKit.acmp (g := (mkF m 56 #[.val (.int p1), .val (.int (0 : Int32)), .val (.ref bl), .val (.ref wh), .val (.ref wh)] [(.ref wh), (.ref wh)])) X1010 hx rfl rfl rfl (pc0 := 56) (pc' := 61) (same := true) rfl (hb hby at_56) rfl (decide_eq_true rfl) (by decide) (by decide) kt) ?_
    refine go (T' := T1010) (g' := (mkF m 63 #[.val (.int p1), .val (.int (0 : Int32)), .val (.ref bl), .val (.ref wh), .val (.ref wh)] [(.ref wh)])) (fun t kt => XS.aload X1010.here hx rfl (hb hby at_61) rfl rfl kt) ?_
    refine go (T' := T1010) (g' := (mkF m 64 #[.val (.int p1), .val (.int (0 : Int32)), .val (.ref bl), .val (.ref wh), .val (.ref wh)] [(.ref bl), (.ref wh)])) (fun t kt => XS.aloadN X1010.here hx rfl (hb hby at_63) rfl rfl kt) ?_
    refine go (T' := T1010) (g' := (mkF m 69 #[.val (.int p1), .val (.int (0 : Int32)), .val (.ref bl), .val (.ref wh), .val (.ref wh)] [])) (fun t kt => Jvm.RoadKit.acmp (g := (mkF m 64 #[.val (.int p1), .val (.int (0 : Int32)), .val (.ref bl), .val (.ref wh), .val (.ref wh)] [(.ref bl), (.ref wh)])) X1010 hx rfl rfl rfl (pc0 := 64) (pc' := 69) (same := false) rfl (hb hby at_64) rfl (decide_eq_false fun q => hne (Value.ref.inj q)) (by decide) (by decide) kt) ?_
    refine go (T' := T1010) (g' := (mkF m 71 #[.val (.int p1), .val (.int (0 : Int32)), .val (.ref bl), .val (.ref wh), .val (.ref wh)] [(.ref wh)])) (fun t kt => XS.aload X1010.here hx rfl (hb hby at_69) rfl rfl kt) ?_
    obtain ⟨cq1011, kq1011, q1011a, q1011b, q1011c⟩ := isOf hZ e1010 E1
    obtain ⟨_, _, ⟨T1011, L1011, k1011, n1011⟩, -, X1011, ⟨Lc1011, hQ1011, l1011, y1011, z1011⟩, st1011⟩ := X1010.virtualBack hx (y := (⟨"com/example/damarium/damarium/rules/Side", "opponent", "()Lcom/example/damarium/damarium/rules/Side;"⟩ : MethodName)) (z := (⟨"com/example/damarium/damarium/rules/Side", "opponent", "()Lcom/example/damarium/damarium/rules/Side;"⟩ : MethodName)) hown (mvT hZ (hw _ (List.mem_of_getElem? (i := 5) rfl))) (mvT hZ (hw _ (List.mem_of_getElem? (i := 6) rfl))) (notFace_of_selects (args := #[]) (mvT hZ (hw _ (List.mem_of_getElem? (i := 8) rfl)))) (mvT hZ (hw _ (List.mem_of_getElem? (i := 8) rfl))) (mvT hZ (hw _ (List.mem_of_getElem? (i := 7) rfl))) (by decide) (backOf (W := 0) (rm1 l Z a0 hw [] wh wh bl h0 n0 Z0 S1 S2) hZ (hw _ (List.mem_of_getElem? (i := 9) rfl)) (hw _ (List.mem_of_getElem? (i := 1) rfl)) (by decide) (by decide)) q1011a q1011c (g := (mkF m 71 #[.val (.int p1), .val (.int (0 : Int32)), .val (.ref bl), .val (.ref wh), .val (.ref wh)] [(.ref wh)])) rfl (by rw [hml]; rfl) (Steps.refl _) (argsL := []) (rest := []) (lenOf pd_0 rfl) rfl (by show 2 * 0 + _ ≤ _; exact Nat.le_of_eq rfl) (hb hby at_71) (fun _ _ => ⟨rfl, e1010, (by decide : 0 + 0 ≤ _), (by decide : 0 + 0 ≤ _)⟩)
    dsimp only [Pt.U, Pt.locs, Pt.cells, Pt.slots] at X1011 l1011 y1011 z1011 st1011 hQ1011
    subst l1011 y1011 z1011
    obtain ⟨rfl, N1011q, e1011⟩ := hQ1011
    have N1011 := Fr.app N1010 N1011q
    refine goV (T' := T1011) (g' := (mkF m 74 #[.val (.int p1), .val (.int (0 : Int32)), .val (.ref bl), .val (.ref wh), .val (.ref wh)] [(.ref (if wh = wh then bl else wh))])) st1011 ?_
    refine goEq (g' := (mkF m 74 #[.val (.int p1), .val (.int (0 : Int32)), .val (.ref bl), .val (.ref wh), .val (.ref wh)] [(.ref bl)])) (by rw [if_pos rfl]) ?_
    refine go (T' := T1011) (g' := (mkF m 75 #[.val (.int p1), .val (.int (0 : Int32)), .val (.ref bl), .val (.ref wh), .val (.ref wh)] [(.ref bl), (.ref bl)])) (fun t kt => XS.aloadN X1011.here hx rfl (hb hby at_74) rfl rfl kt) ?_
    refine go (T' := T1011) (g' := (mkF m 78 #[.val (.int p1), .val (.int (0 : Int32)), .val (.ref bl), .val (.ref wh), .val (.ref wh)] [])) (fun t kt => Jvm.RoadKit.acmp (g := (mkF m 75 #[.val (.int p1), .val (.int (0 : Int32)), .val (.ref bl), .val (.ref wh), .val (.ref wh)] [(.ref bl), (.ref bl)])) X1011 hx rfl rfl rfl (pc0 := 75) (pc' := 78) (same := true) rfl (hb hby at_75) rfl (decide_eq_true rfl) (by decide) (by decide) kt) ?_
    refine go (T' := T1011) (g' := (mkF m 79 #[.val (.int p1), .val (.int (0 : Int32)), .val (.ref bl), .val (.ref wh), .val (.ref wh)] [(.int (1 : Int32))])) (fun t kt => XS.iconst X1011.here hx rfl (hb hby at_78) kt) ?_
    refine go (T' := T1011) (g' := (mkF m 83 #[.val (.int p1), .val (.int (0 : Int32)), .val (.ref bl), .val (.ref wh), .val (.ref wh)] [(.int (1 : Int32))])) (fun t kt => XS.goto X1011.here hx rfl (pc0 := 79) (pc' := 83) rfl (hb hby at_79) (by decide) (by decide) kt) ?_
    refine goRetN X1011 hx hlk (t := .boolean) Bd.returns (by simp) (hb hby at_83) ?_ (by decide) (by decide)
    rw [e1011]
    exact ⟨rfl, N1011⟩
set_option maxRecDepth 65536 in
set_option maxHeartbeats 40000000 in
theorem comes_1 {Post : Tables → Env → Array Value → State → Outcome → State → Prop} (hpost : ∀ tb e args s v u, (limb_1_1.after args s (.returned v) u = true ∧ limb_1_2.after args s (.returned v) u = true ∧ True) → FrameEnd s (.returned v) u (Jvm.fieldLocs frame_1_writes args s ++ Jvm.arrayLocs frame_1_arrays args s ++ Jvm.staticLocs frame_1_statics s) 0 0 → Post tb e args s (.returned v) u) :
    ArmFor flags0 classFile x code maxLocals ret World_1 tables_1 room_1 Calls_1 rest_1 Pre_1 Post := by
  intro l hfl _ _ p e ha hc hk s m args below hf hA hF happ hP
  obtain ⟨hcalls, hrest, hpre⟩ := hP
  obtain ⟨-, -, -, hnamed, -, -, -, hat⟩ := (Spec.applies_iff hf).mp happ
  obtain ⟨hg, hn⟩ := and_e (Cond.before_iff.mp (show (Jvm.Cond.and given_1 narrow_1).before args s = true from hpre))
  obtain ⟨g2, g2'⟩ := and_e hg
  obtain ⟨w0, rfl⟩ : ∃ w0 : Value, args = #[w0] := by
    have hs : args.size = 1 := by simpa [Cond.value, given_1] using g2
    obtain ⟨L⟩ := args
    match L, hs with
    | [w0], _ => exact ⟨w0, rfl⟩
  have hw := fun d (hd : d ∈ tables_1) => atoms_spec (ws := Jvm.Cond.code x code maxLocals ret :: tables_1) hat d (List.mem_cons_of_mem _ hd)
  have hfit : Fit s := fun {y c} hc i hi => by
    obtain ⟨ha, rfl⟩ := Array.getElem?_eq_some_iff.mp hc
    have q := List.all_eq_true.mp ((Array.all_eq_true_iff_forall_mem.mp hF) _ (Array.getElem_mem ha)) i (List.mem_range.mpr hi)
    simpa [Array.getElem?_eq_getElem hi] using q
  obtain ⟨i0, ei0⟩ := is_v g2'
  obtain rfl : w0 = (.int i0) := Option.some.inj ei0
  obtain ⟨n1, n2⟩ := and_e hn
  obtain ⟨n2, n3⟩ := and_e n2
  obtain ⟨n3, n4⟩ := and_e n3
  obtain ⟨wh, ew⟩ := exa_v n1
  obtain ⟨bl, eb⟩ := exa_v n2
  have S1 := Sta.start ew (Or.inr ⟨hw _ (List.mem_of_getElem? (i := 1) rfl), hw _ (List.mem_of_getElem? (i := 2) rfl)⟩)
  have S2 := Sta.start eb (Or.inr ⟨hw _ (List.mem_of_getElem? (i := 1) rfl), hw _ (List.mem_of_getElem? (i := 4) rfl)⟩)
  have E1 := Exa.start ew n1
  have E2 := Exa.start eb n2
  have q3 := own_eqI n3
  have q4 := own_eqI n4
  rw [fld_at eb] at q3
  rw [fld_at ew] at q4
  have hne : ¬ (wh = bl) := fun q => by
    rw [q, q3] at q4
    exact absurd q4 (by decide)
  obtain ⟨n, o, h1, h2, h3, _, L, rfl, ⟨rfl, N⟩, hq⟩ := rm0 l s _ hw tables_1 i0 wh bl s.heap s.heap.size (Nat.le_refl _) S1 S2 E1 E2 hne p e ha hc hk s m _ below hf ((Spec.applies_iff_loose hf).mp happ).1 ⟨rfl, State.Warmed39.refl s, rfl⟩ trivial
  refine ⟨n, _, h1, h2, h3, hpost _ _ _ _ _ _ ⟨Cond.after_iff.mpr rfl, Cond.after_iff.mpr (eq_i res_at (Term.int_eval (1)) rfl), trivial⟩ ⟨hq.1, hq.2.1, (hq.2.2.sift fun y hy => Or.inr (N y hy)).mono (by decide) (by decide)⟩⟩
theorem main_1_1 : Claimed_1_1 := comes_1 fun _ _ _ _ _ _ h hF => ⟨h.1, hF⟩
theorem main_1_2 : Claimed_1_2 := comes_1 fun _ _ _ _ _ _ h hF => ⟨h.2.1, hF⟩
end Jvm.Pilot.@@N@@
namespace Jvm.Pilot.@@N@@
open Jvm Jvm.ClassFile Sem Op Lib Jvm.Free Jvm.Stand Jvm.Pilot.@@N@@.Jvm.D
/-! MADE BY PROGRAM (witnessworld.py) out of the Statement's table words and the real class files: 12 classes; the members and pool entries that the words name. The judged class is class 1, her method 1. -/
namespace start1
open Jvm.ClassFile
def u (s : String) : CpInfo := .utf8 (stringToUtf16 s)
/-- a pool by its gaps: so many unusable entries, then the entry; so many at the end -/
def gap : Nat → List CpInfo → List CpInfo
  | 0, r => r
  | n + 1, r => .unusable :: gap n r
def poolList (es : List (Nat × CpInfo)) (last : Nat) : List CpInfo := es.foldr (fun e r => gap e.1 (e.2 :: r)) (gap last [])
def pool (es : List (Nat × CpInfo)) (last : Nat) : Array CpInfo := ⟨poolList es last⟩
def fileOf (pool : Array CpInfo) (this : Nat) (attrs : Array Attribute := #[]) (ms : Array MethodInfo := #[]) (fl : Nat := 33) (sup : Nat := 0) (ifs : Array Nat := #[]) (fds : Array FieldInfo := #[]) : ClassFile where
  minorVersion := 0
  majorVersion := 65
  constantPool := pool
  accessFlags := fl
  thisClass := this
  superClass := sup
  interfaces := ifs
  fields := fds
  methods := ms
  attributes := attrs
def plain (name : String) (sup : Option ClassId) : Class where
  name := name
  kind := .ordinary
  loader := none
  accessFlags := 33
  super := sup
  interfaces := #[]
  cf := none
  fields := #[]
  methods := #[]
  instanceTypes := #[]
  staticTypes := #[]
  resolved := #[]
  callSites := []
  init := .initialized
  statics := none
  mirror := none

def pool0 : Array CpInfo := pool [(5, u "<init>"), (0, u "()V"), (1, .class_ 10), (1, u "java/lang/Object")] 113

def k0m0 : Method := { name := "<init>", desc := "()V", sig := { parameters := [], returnType := none }, accessFlags := 1, code := none }
/-- java/lang/Object -/
def k0 : Class := { plain "java/lang/Object" none with
  accessFlags := 33
  interfaces := #[]
  cf := some (fileOf pool0 8 #[] #[{ accessFlags := 1, nameIndex := 5, descriptorIndex := 6, attributes := #[] }] 33 0 #[] #[])
  fields := #[]
  methods := #[k0m0]
  instanceTypes := #[]
  staticTypes := #[]
  resolved := Array.replicate 124 none
  statics := none }

def pool1 : Array CpInfo := pool [(2, .class_ 4), (1, u "java/lang/Object"), (0, u "<init>"), (0, u "()V"), (0, .fieldref 8 9), (0, .class_ 10), (0, .nameAndType 11 12), (0, u "com/example/damarium/damarium/rules/Side"), (0, u "WHITE"), (0, u "Lcom/example/damarium/damarium/rules/Side;"), (0, .fieldref 8 14), (0, .nameAndType 15 12), (0, u "BLACK"), (0, .methodref 8 17), (0, .nameAndType 18 19), (0, u "opponent"), (0, u "()Lcom/example/damarium/damarium/rules/Side;"), (0, .class_ 21), (0, u "com/example/damarium/damarium/rules/SideOpponentPinLaw"), (2, u "law"), (0, u "(I)Z")] 3

def k1m0 : Method := { name := "<init>", desc := "()V", sig := { parameters := [], returnType := none }, accessFlags := 1, code := none }
def k1c1 : Code := { maxStack := 2, maxLocals := 5, code := code, exceptionTable := #[], attributes := #[] }
def k1m1 : Method := { name := "law", desc := "(I)Z", sig := { parameters := [.int], returnType := some .boolean }, accessFlags := 9, code := some k1c1 }
/-- com/example/damarium/damarium/rules/SideOpponentPinLaw -/
def k1 : Class := { plain "com/example/damarium/damarium/rules/SideOpponentPinLaw" (some 0) with
  accessFlags := 49
  interfaces := #[]
  cf := some (fileOf pool1 20 #[] #[{ accessFlags := 1, nameIndex := 5, descriptorIndex := 6, attributes := #[] }, { accessFlags := 9, nameIndex := 24, descriptorIndex := 25, attributes := #[] }] 49 2 #[] #[])
  fields := #[]
  methods := #[k1m0, k1m1]
  instanceTypes := #[]
  staticTypes := #[]
  resolved := Array.replicate 29 none
  statics := none }

def pool2 : Array CpInfo := pool [(1, .class_ 2), (0, u "java/lang/constant/Constable"), (0, .class_ 4), (0, u "java/lang/Object")] 6

/-- java/lang/constant/Constable -/
def k2 : Class := { plain "java/lang/constant/Constable" (some 0) with
  accessFlags := 1537
  interfaces := #[]
  cf := some (fileOf pool2 1 #[] #[] 1537 3 #[] #[])
  fields := #[]
  methods := #[]
  instanceTypes := #[]
  staticTypes := #[]
  resolved := Array.replicate 11 none
  statics := none }

def pool3 : Array CpInfo := pool [(1, .class_ 2), (0, u "java/lang/Comparable"), (0, .class_ 4), (0, u "java/lang/Object")] 7

/-- java/lang/Comparable -/
def k3 : Class := { plain "java/lang/Comparable" (some 0) with
  accessFlags := 1537
  interfaces := #[]
  cf := some (fileOf pool3 1 #[] #[] 1537 3 #[] #[])
  fields := #[]
  methods := #[]
  instanceTypes := #[]
  staticTypes := #[]
  resolved := Array.replicate 12 none
  statics := none }

def pool4 : Array CpInfo := pool [(1, .class_ 2), (0, u "java/io/Serializable"), (0, .class_ 4), (0, u "java/lang/Object")] 2

/-- java/io/Serializable -/
def k4 : Class := { plain "java/io/Serializable" (some 0) with
  accessFlags := 1537
  interfaces := #[]
  cf := some (fileOf pool4 1 #[] #[] 1537 3 #[] #[])
  fields := #[]
  methods := #[]
  instanceTypes := #[]
  staticTypes := #[]
  resolved := Array.replicate 7 none
  statics := none }

def pool5 : Array CpInfo := pool [(2, .class_ 4), (1, u "java/lang/Enum"), (0, u "name"), (0, u "Ljava/lang/String;"), (2, u "ordinal"), (0, u "I"), (1, .class_ 14), (1, u "java/lang/Object"), (4, u "hash"), (86, .class_ 108), (1, u "java/lang/Enum$EnumDesc"), (2, .class_ 112), (0, u "java/lang/constant/Constable"), (0, .class_ 114), (0, u "java/lang/Comparable"), (0, .class_ 116), (0, u "java/io/Serializable")] 87

/-- java/lang/Enum -/
def k5 : Class := { plain "java/lang/Enum" (some 0) with
  accessFlags := 1057
  interfaces := #[2, 3, 4]
  cf := some (fileOf pool5 2 #[.nestMembers #[106]] #[] 1057 12 #[111, 113, 115] #[{ accessFlags := 18, nameIndex := 5, descriptorIndex := 6, attributes := #[] }, { accessFlags := 18, nameIndex := 9, descriptorIndex := 10, attributes := #[] }, { accessFlags := 2, nameIndex := 19, descriptorIndex := 10, attributes := #[] }])
  fields := #[{ name := "name", type := (.object "java/lang/String"), accessFlags := 18, slot := 0, constantValue := 0 }, { name := "ordinal", type := .int, accessFlags := 18, slot := 1, constantValue := 0 }, { name := "hash", type := .int, accessFlags := 2, slot := 2, constantValue := 0 }]
  methods := #[]
  instanceTypes := #[(.object "java/lang/String"), .int, .int]
  staticTypes := #[]
  resolved := Array.replicate 204 none
  statics := none }

def pool6 : Array CpInfo := pool [(1, .class_ 2), (0, u "com/example/damarium/damarium/rules/Side"), (0, .fieldref 1 4), (0, .nameAndType 5 6), (0, u "WHITE"), (0, u "Lcom/example/damarium/damarium/rules/Side;"), (0, .fieldref 1 8), (0, .nameAndType 9 6), (0, u "BLACK"), (2, u "$VALUES"), (0, u "[Lcom/example/damarium/damarium/rules/Side;"), (6, .class_ 22), (1, u "java/lang/Enum"), (20, u "opponent"), (0, u "()Lcom/example/damarium/damarium/rules/Side;")] 5

def k6c0 : Code := { maxStack := 2, maxLocals := 1, code := prog_59_method_4_code, exceptionTable := #[], attributes := #[] }
def k6m0 : Method := { name := "opponent", desc := "()Lcom/example/damarium/damarium/rules/Side;", sig := { parameters := [], returnType := some (.object "com/example/damarium/damarium/rules/Side") }, accessFlags := 1, code := some k6c0 }
/-- com/example/damarium/damarium/rules/Side -/
def k6 : Class := { plain "com/example/damarium/damarium/rules/Side" (some 5) with
  accessFlags := 16433
  interfaces := #[]
  cf := some (fileOf pool6 1 #[] #[{ accessFlags := 1, nameIndex := 43, descriptorIndex := 44, attributes := #[] }] 16433 20 #[] #[{ accessFlags := 16409, nameIndex := 5, descriptorIndex := 6, attributes := #[] }, { accessFlags := 16409, nameIndex := 9, descriptorIndex := 6, attributes := #[] }, { accessFlags := 4122, nameIndex := 12, descriptorIndex := 13, attributes := #[] }])
  fields := #[{ name := "WHITE", type := (.object "com/example/damarium/damarium/rules/Side"), accessFlags := 16409, slot := 0, constantValue := 0 }, { name := "BLACK", type := (.object "com/example/damarium/damarium/rules/Side"), accessFlags := 16409, slot := 1, constantValue := 0 }, { name := "$VALUES", type := (.array (.object "com/example/damarium/damarium/rules/Side")), accessFlags := 4122, slot := 2, constantValue := 0 }]
  methods := #[k6m0]
  instanceTypes := #[(.object "java/lang/String"), .int, .int]
  staticTypes := #[(.object "com/example/damarium/damarium/rules/Side"), (.object "com/example/damarium/damarium/rules/Side"), (.array (.object "com/example/damarium/damarium/rules/Side"))]
  resolved := Array.replicate 50 none
  statics := some 0 }

def pool7 : Array CpInfo := pool [(1, u "java/lang/Cloneable"), (0, .class_ 1), (0, u "java/lang/Object"), (0, .class_ 3)] 3

/-- java/lang/Cloneable -/
def k7 : Class := { plain "java/lang/Cloneable" (some 0) with
  accessFlags := 1537
  interfaces := #[]
  cf := some (fileOf pool7 2 #[] #[] 1537 4 #[] #[])
  fields := #[]
  methods := #[]
  instanceTypes := #[]
  staticTypes := #[]
  resolved := Array.replicate 8 none
  statics := none }

/-- the primitive byte -/
def k8 : Class := { plain "byte" none with kind := .primitive 'B', accessFlags := 0x411 }
/-- [B -/
def k9 : Class := { plain "[B" (some 0) with kind := .array 8 .byte, interfaces := #[7, 4], accessFlags := 1041 }

/-- the primitive int -/
def k10 : Class := { plain "int" none with kind := .primitive 'I', accessFlags := 0x411 }
/-- [I -/
def k11 : Class := { plain "[I" (some 0) with kind := .array 10 .int, interfaces := #[7, 4], accessFlags := 1041 }

def heap : Heap := #[{ cls := 6, slots := #[.ref 1, .ref 2, .null], vm := .statics 6 },
  { cls := 6, slots := #[.null, .int 0, .int 0], vm := .none },
  { cls := 6, slots := #[.null, .int 1, .int 0], vm := .none }]
def classes : Array Class := #[k0, k1, k2, k3, k4, k5, k6, k7, k8, k9, k10, k11]
def interned : List (Array UInt16 × Addr) := []
def slotsUsed : Nat := 9
def theMethod : MethodId := ⟨1, 1⟩
def args0 : Array Value := #[.int 5]
def aboutOver (below : List Frame) : State where
  vm := { classes := classes, interned := interned.toArray }
  heap := heap
  slotsUsed := slotsUsed
  threads := #[{ frames := .invoking theMethod args0 :: below }]
def below0 : List Frame := [.native { method := ⟨0, 0⟩, args := #[] }]
def about1 : State := aboutOver below0
def p0 : Program := .bare "" "" ""
def e0 : Env := launch0.env 0 0 0
theorem w_frames : about1.frames = Frame.invoking theMethod args0 :: below0 := rfl
set_option maxRecDepth 65536 in
theorem w_args : argsFit about1.vm theMethod args0 = true := by decide +kernel
set_option maxRecDepth 65536 in
theorem w_heap : heapFits about1 = true := by decide +kernel
set_option maxRecDepth 65536 in
theorem w_runnable : about1.curStatus? = some .runnable := by decide +kernel
set_option maxRecDepth 65536 in
theorem w_alone : about1.alone = true := by decide +kernel
set_option maxRecDepth 65536 in
theorem w_named : about1.methodNamed? x = some theMethod := by decide +kernel
set_option maxRecDepth 65536 in
theorem w_hears : about1.hears theMethod below0 = true := by decide +kernel
set_option maxRecDepth 65536 in
theorem w_ripe : about1.ripe theMethod args0 below0 = true := by decide +kernel
theorem w_running : about1.status = .running := rfl
set_option maxRecDepth 65536 in
theorem w_room : about1.hasRoom e0.platform room_1 = true :=
  launch0.hasRoom_least _ room_1 (by decide +kernel) (by decide +kernel) (by decide +kernel) (by decide +kernel) (by decide +kernel) (by decide +kernel)
theorem allAtoms_all (ts : List Jvm.Cond) (a : Array Jvm.Value) (st : Jvm.State) : (allAtoms ts).before a st = ts.all (fun c => c.before a st) := by
  induction ts with
  | nil => rfl
  | cons c t ih =>
    show (Jvm.Cond.and c (allAtoms t)).before a st = _
    rw [Jvm.Cond.before_and, ih, List.all_cons]
def words1 : List Jvm.Cond := Jvm.Cond.code x code maxLocals ret :: tables_1
/-- a 'code' word, met by the world's own term for the bytes: nothing is compared byte by byte -/
theorem code_word {y : MethodName} {bytes : ByteArray} {mx : Nat} {rt : Option FieldType} {a : Array Value} {s : State} {m : MethodId} {meth : Method} {c : Code} (h1 : s.methodNamed? y = some m) (h2 : s.vm.method? m = some meth) (h3 : meth.code = some c) (h4 : c.code = bytes)
    (h5 : (c.maxLocals == mx && c.exceptionTable.isEmpty && decide (c.maxStack ≤ mostOperands) && decide (meth.sig.returnType = rt) && !meth.locks && decide (parseMethodDescriptor y.desc = some meth.sig)) = true) : (Jvm.Cond.code y bytes mx rt).before a s = true := by
  simp only [Bool.and_eq_true, beq_iff_eq, Bool.not_eq_true', decide_eq_true_eq] at h5
  obtain ⟨⟨⟨⟨⟨g1, g2⟩, g3⟩, g4⟩, g5⟩, g6⟩ := h5
  simp [Cond.before, Cond.holds, Cond.value, h1, h2, h3, h4, g1, g2, g3, g4, g5, g6]
def isCode : Jvm.Cond → Bool
  | .code _ _ _ _ => true
  | _ => false
theorem all_split {L : List Jvm.Cond} {P : Jvm.Cond → Bool} (h1 : L.all (fun c => isCode c || P c) = true) (h2 : ∀ c ∈ L.filter isCode, P c = true) : L.all P = true := by
  refine List.all_eq_true.mpr fun c hc => ?_
  have h := List.all_eq_true.mp h1 c hc
  rcases Bool.eq_false_or_eq_true (isCode c) with hi | hi
  · exact h2 c (List.mem_filter.mpr ⟨hc, hi⟩)
  · simpa [hi] using h
set_option maxRecDepth 65536 in
theorem w_c0 : (Jvm.Cond.code x code maxLocals ret).before args0 about1 = true := code_word (m := ⟨1, 1⟩) (meth := k1m1) (c := k1c1) (by decide +kernel) rfl rfl rfl (by decide +kernel)
set_option maxRecDepth 65536 in
theorem w_c1 : (Jvm.Cond.code ({ cls := "com/example/damarium/damarium/rules/Side", name := "opponent", desc := "()Lcom/example/damarium/damarium/rules/Side;" } : Jvm.MethodName) prog_59_method_4_code (1 : Nat) (Option.some (Jvm.ClassFile.FieldType.object "com/example/damarium/damarium/rules/Side"))).before args0 about1 = true := code_word (m := ⟨6, 0⟩) (meth := k6m0) (c := k6c0) (by decide +kernel) rfl rfl rfl (by decide +kernel)
def codes1 : List Jvm.Cond := [Jvm.Cond.code x code maxLocals ret, Jvm.Cond.code ({ cls := "com/example/damarium/damarium/rules/Side", name := "opponent", desc := "()Lcom/example/damarium/damarium/rules/Side;" } : Jvm.MethodName) prog_59_method_4_code (1 : Nat) (Option.some (Jvm.ClassFile.FieldType.object "com/example/damarium/damarium/rules/Side"))]
set_option maxRecDepth 65536 in
theorem codes_eq : words1.filter isCode = codes1 := rfl
theorem w_codes : ∀ c ∈ words1.filter isCode, c.before args0 about1 = true := by
  rw [codes_eq]
  intro c hc
  simp only [codes1, List.mem_cons, List.not_mem_nil, or_false] at hc
  rcases hc with rfl | rfl
  · exact w_c0
  · exact w_c1
set_option maxRecDepth 65536 in
theorem w_t1 : words1.all (fun c => isCode c || c.before args0 about1) = true := by decide +kernel
theorem w_tables : (allAtoms (Jvm.Cond.code x code maxLocals ret :: tables_1)).before args0 about1 = true := by
  rw [allAtoms_all]
  show words1.all (fun c => c.before args0 about1) = true
  refine all_split ?_ w_codes
  rw [w_t1]
set_option maxRecDepth 65536 in
theorem w_case : (Jvm.Cond.and given_1 narrow_1).before args0 about1 = true := by decide +kernel
theorem w_applies : (headSpec (Jvm.Cond.code x code maxLocals ret :: tables_1) room_1).applies x e0.platform about1 = true :=
  (Spec.applies_iff w_frames).mpr ⟨w_running, w_runnable, w_alone, w_named, w_hears, w_ripe, w_room, w_tables⟩
theorem atStart : AtStart classFile x code maxLocals ret World_1 tables_1 room_1 Calls_1 rest_1 Pre_1 launch0 p0 e0 about1 theMethod args0 below0 :=
  ⟨lists_1, trivial, launch0.admits_env _ _ _, launch0.least_env, fairChoices_fair.cas, fairChoices_fair.clock, w_frames, w_args, w_heap, w_applies, trivial, trivial, w_case⟩
end start1
theorem witness_1 : WitnessClaimed_1 := ⟨start1.p0, start1.e0, start1.about1, start1.theMethod, start1.args0, start1.below0, start1.atStart⟩
end Jvm.Pilot.@@N@@
