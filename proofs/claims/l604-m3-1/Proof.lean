import JvmDerived
import JvmDerived.Pilot.@@N@@Statement
import JvmDerived.Pilot.@@N@@Code
set_option linter.unusedVariables false
set_option linter.unusedSimpArgs false
namespace Jvm.Pilot.@@N@@
open Jvm Jvm.ClassFile Sem Op Lib Jvm.Free Jvm.Stand Jvm.LawKit Jvm.RoadKit Bundle Jvm.Pilot.@@N@@.Jvm.D
section OwnKit
variable {p : Program} {l : Launch} {e : Env} {R : Room} {s : State} {m : MethodId} {args : Array Value} {below : List Frame} {meth : Method} {c : Code} {T T' : State} {locs : List Loc} {cells slots ck sk : Nat} {Q : Option Value → Heap → List Loc → Prop} {g g' : JFrame}
/-- from the state T with the top frame g the body ends, and Q says how -/
def Goes (p : Program) (e : Env) (below : List Frame) (s : State) (ck sk : Nat) (Q : Option Value → Heap → List Loc → Prop) (T : State) (g : JFrame) : Prop :=
  ∃ s₂ o, Steps p.tables e below (T.setTop g) s₂ ∧ s₂.status = .running ∧ Ended s₂ below o ∧ ∃ v L, o = .returned v ∧ Q v s₂.heap L ∧ FrameEnd s o s₂ L ck sk
theorem go (h : ∀ t, Steps p.tables e below (T'.setTop g') t → Steps p.tables e below (T.setTop g) t) (k : Goes p e below s ck sk Q T' g') : Goes p e below s ck sk Q T g := by
  obtain ⟨s₂, o, h1, r⟩ := k
  exact ⟨s₂, o, h _ h1, r⟩
theorem goV (h : Steps p.tables e below (T.setTop g) (T'.setTop g')) (k : Goes p e below s ck sk Q T' g') : Goes p e below s ck sk Q T g := go (fun _ kt => h.trans kt) k
theorem goEq (h : g = g') (k : Goes p e below s ck sk Q T g') : Goes p e below s ck sk Q T g := h ▸ k
theorem goVia {T₂ : State} {g₂ : JFrame} (h : Goes p e below s ck sk Q T₂ g₂ → Goes p e below s ck sk Q T g) (k : Goes p e below s ck sk Q T₂ g₂) : Goes p e below s ck sk Q T g := h k
theorem goRetN (X : Stand p l e R s m args below meth c T locs cells slots) (hx : p.tables.exec = Jvm.exec) (hlk : meth.locks = false) {pc : Nat} {Ls : Array Slot} {z : Int32} {t : FieldType} {rest : List Value} (hret : meth.sig.returnType = some t) (ht : t = .boolean ∨ t = .byte ∨ t = .char ∨ t = .short) (hd : decode c.code pc = .ok (.ireturn, 1))
    (hq : Q (some (.int (nar t z))) T.heap locs) (h1 : cells ≤ ck) (h2 : slots ≤ sk) : Goes p e below s ck sk Q T (mkF m pc Ls (.int z :: rest)) := by
  obtain ⟨fs, hr, hrun, hended, hW, hsame⟩ := X.leave (v := some (.int (nar t z))) (fun h => by rw [hret] at h; cases h)
  exact ⟨_, _, retN X hx hret ht hd hr, hrun, hended, _, _, rfl, hq, ⟨_, rfl⟩, hW, hsame.mono h1 h2⟩
theorem goRetI (X : Stand p l e R s m args below meth c T locs cells slots) (hx : p.tables.exec = Jvm.exec) (hlk : meth.locks = false) {pc : Nat} {Ls : Array Slot} {z : Int32} {rest : List Value} (hret : meth.sig.returnType = some .int) (hd : decode c.code pc = .ok (.ireturn, 1))
    (hq : Q (some (.int z)) T.heap locs) (h1 : cells ≤ ck) (h2 : slots ≤ sk) : Goes p e below s ck sk Q T (mkF m pc Ls (.int z :: rest)) := by
  obtain ⟨fs, hr, hrun, hended, hW, hsame⟩ := X.leave (v := some (.int z)) (fun h => by rw [hret] at h; cases h)
  exact ⟨_, _, retOut X hx hret rfl (Or.inl ⟨rfl, Or.inl rfl, z, rfl⟩) hd hr, hrun, hended, _, _, rfl, hq, ⟨_, rfl⟩, hW, hsame.mono h1 h2⟩
theorem goRetJ (X : Stand p l e R s m args below meth c T locs cells slots) (hx : p.tables.exec = Jvm.exec) (hlk : meth.locks = false) {pc : Nat} {Ls : Array Slot} {z : Int64} {rest : List Value} (hret : meth.sig.returnType = some .long) (hd : decode c.code pc = .ok (.lreturn, 1))
    (hq : Q (some (.long z)) T.heap locs) (h1 : cells ≤ ck) (h2 : slots ≤ sk) : Goes p e below s ck sk Q T (mkF m pc Ls (.long z :: rest)) := by
  obtain ⟨fs, hr, hrun, hended, hW, hsame⟩ := X.leave (v := some (.long z)) (fun h => by rw [hret] at h; cases h)
  exact ⟨_, _, retOut X hx hret rfl (Or.inr (Or.inl ⟨rfl, rfl, z, rfl⟩)) hd hr, hrun, hended, _, _, rfl, hq, ⟨_, rfl⟩, hW, hsame.mono h1 h2⟩
theorem goRetA (X : Stand p l e R s m args below meth c T locs cells slots) (hx : p.tables.exec = Jvm.exec) (hlk : meth.locks = false) {pc : Nat} {Ls : Array Slot} {w : Value} {t : FieldType} {rest : List Value} (hret : meth.sig.returnType = some t) (ht : t.isReference = true) (hn : narrow t w = w) (hw : w.isRef = true) (hd : decode c.code pc = .ok (.areturn, 1))
    (hq : Q (some w) T.heap locs) (h1 : cells ≤ ck) (h2 : slots ≤ sk) : Goes p e below s ck sk Q T (mkF m pc Ls (w :: rest)) := by
  obtain ⟨fs, hr, hrun, hended, hW, hsame⟩ := X.leave (v := some w) (fun h => by rw [hret] at h; cases h)
  exact ⟨_, _, retOut X hx hret hn (Or.inr (Or.inr (Or.inr (Or.inr ⟨rfl, ht, hw⟩)))) hd hr, hrun, hended, _, _, rfl, hq, ⟨_, rfl⟩, hW, hsame.mono h1 h2⟩
theorem goRetV (X : Stand p l e R s m args below meth c T locs cells slots) (hx : p.tables.exec = Jvm.exec) (hlk : meth.locks = false) {pc : Nat} {Ls : Array Slot} (hret : meth.sig.returnType = none) (hd : decode c.code pc = .ok (.return_, 1))
    (hq : Q none T.heap locs) (h1 : cells ≤ ck) (h2 : slots ≤ sk) : Goes p e below s ck sk Q T (mkF m pc Ls []) := by
  obtain ⟨fs, hr, hrun, hended, hW, hsame⟩ := X.leave (v := none) (fun _ => rfl)
  exact ⟨_, _, X.returnOut hx hret hd hr, hrun, hended, _, _, rfl, hq, ⟨_, rfl⟩, hW, hsame.mono h1 h2⟩
theorem own_l0 {x y : Int64} (h : x = y) : ifCond.holds .eq (lcmpW x y) = true ∧ ifCond.holds .ne (lcmpW x y) = false := by rw [if0, if0]; exact teq ((lw_eq x y).mpr h)
theorem own_l1 {x y : Int64} (h : ¬ x = y) : ifCond.holds .eq (lcmpW x y) = false ∧ ifCond.holds .ne (lcmpW x y) = true := by rw [if0, if0]; exact feq fun q => h ((lw_eq x y).mp q)
theorem own_l2 {x y : Int64} (h : x < y) : ifCond.holds .lt (lcmpW x y) = true ∧ ifCond.holds .ge (lcmpW x y) = false := by rw [if0, if0]; exact ⟨(tlt ((lw_lt x y).mpr h)).1, (tlt ((lw_lt x y).mpr h)).2.1⟩
theorem own_l3 {x y : Int64} (h : ¬ x < y) : ifCond.holds .lt (lcmpW x y) = false ∧ ifCond.holds .ge (lcmpW x y) = true := by
  rw [if0, if0]
  have q : ¬ lcmpW x y < 0 := fun q => h ((lw_lt x y).mp q)
  exact ⟨(flt q).1, (flt q).2.1⟩
theorem own_l4 {x y : Int64} (h : y < x) : ifCond.holds .gt (lcmpW x y) = true ∧ ifCond.holds .le (lcmpW x y) = false := by rw [if0, if0]; exact ⟨(tlt ((lw_gt x y).mpr h)).2.2.1, (tlt ((lw_gt x y).mpr h)).2.2.2⟩
theorem own_l5 {x y : Int64} (h : ¬ y < x) : ifCond.holds .gt (lcmpW x y) = false ∧ ifCond.holds .le (lcmpW x y) = true := by
  rw [if0, if0]
  have q : ¬ 0 < lcmpW x y := fun q => h ((lw_gt x y).mp q)
  exact ⟨(flt q).2.2.1, (flt q).2.2.2⟩
end OwnKit
section OwnArr
variable {p : Program} {l : Launch} {e : Env} {R : Room} {s : State} {m : MethodId} {args : Array Value} {below : List Frame} {meth : Method} {c : Code} {T : State} {locs : List Loc} {cells slots : Nat} {Z : State} {h h' : Heap} {a b : Addr} {v : Value} {sl : Nat} {ty : FieldType} {n : Int32} {f f' : Nat → Value} {ws : List Addr}
/-- an array of n places: place i holds f i -/
def Aw (Z : State) (h : Heap) (a : Addr) (ty : FieldType) (n : Int32) (f : Nat → Value) : Prop := ∃ c : Cell, Arr Z h a c ty ∧ c.slots.size = n.toNatClampNeg ∧ ¬ n < 0 ∧ (∀ i, i < c.slots.size → c.slots[i]? = some (f i)) ∧ ∀ i, i < c.slots.size → fits ty (f i) = true
def upd (f : Nat → Value) (j : Nat) (v : Value) : Nat → Value := fun i => if i = j then v else f i
theorem Aw.lt (F : Aw Z h a ty n f) : a < h.size := by obtain ⟨c, A, -⟩ := F; exact A.lt
theorem Aw.ext (F : Aw Z h a ty n f) (E : Ext h h') : Aw Z h' a ty n f := by obtain ⟨c, A, r⟩ := F; exact ⟨c, A.ext E, r⟩
theorem Aw.other (F : Aw Z h b ty n f) (W : Wr h h' a sl v) (q : b ≠ a) : Aw Z h' b ty n f := by obtain ⟨c, A, r⟩ := F; exact ⟨c, A.other W q, r⟩
theorem Aw.keep (F : Aw Z h a ty n f) (K : Keep h h' ws) (q : a ∉ ws) : Aw Z h' a ty n f := by obtain ⟨c, A, r⟩ := F; exact ⟨c, ⟨K.2.1 a c A.1 q, A.2⟩, r⟩
theorem Aw.new {k : ClassId} (A : Arr Z h a (newA k ty n) ty) (q : ¬ n < 0) : Aw Z h a ty n (fun _ => defaultValue ty) := ⟨_, A, sz_new _ _ _, q, fun i hi => by rw [sz_new] at hi; simp [newA, hi], fun i _ => by cases ty <;> rfl⟩
theorem Aw.set (F : Aw Z h a ty n f) {j : Nat} (W : Wr h h' a j v) (hv : fits ty v = true) : Aw Z h' a ty n (upd f j v) := by
  obtain ⟨c, A, S, N, H, G⟩ := F
  refine ⟨_, A.same W, by rw [sz_set]; exact S, N, fun i hi => ?_, fun i hi => ?_⟩ <;> rw [sz_set] at hi <;> unfold upd <;> split
  · rename_i q; subst q; simp [Cell.setSlot, hi]
  · rename_i q; simp only [Cell.setSlot]; rw [Array.getElem?_setIfInBounds_ne (Ne.symm q)]; exact H i hi
  · exact hv
  · exact G i hi
theorem Aw.congr (F : Aw Z h a ty n f) (q : ∀ i, i < n.toNatClampNeg → f' i = f i) : Aw Z h a ty n f' := by
  obtain ⟨c, A, S, N, H, G⟩ := F
  exact ⟨c, A, S, N, fun i hi => by rw [q i (S ▸ hi)]; exact H i hi, fun i hi => by rw [q i (S ▸ hi)]; exact G i hi⟩
theorem Aw.nn (F : Aw Z h a ty n f) : ¬ n < 0 := by obtain ⟨c, A, S, N, -⟩ := F; exact N
theorem own_stI (X : Stand p l e R s m args below meth c T locs cells slots) (hx : p.tables.exec = Jvm.exec) (hZ : Z.Warmed39 s.vm) (eT : T.heap = h) (F : Aw Z h a .int n f) {j x : Int32} (hj : ¬ j < 0 ∧ j < n) {g : JFrame} (hg : g.method = m) {rest : List Value} (hs : g.stack = .int x :: .int j :: .ref a :: rest) (hd : decode c.code g.pc = .ok (.iastore, 1)) :
    ∃ T' h', Stand p l e R s m args below meth c T' (locs ++ [⟨a, j.toNatClampNeg⟩]) cells slots ∧ T'.heap = h' ∧ Wr h h' a j.toNatClampNeg (.int x) ∧ Aw Z h' a .int n (upd f j.toNatClampNeg (.int x)) ∧ ∀ target, Steps p.tables e below (T'.setTop { g with pc := g.pc + 1, stack := rest }) target → Steps p.tables e below (T.setTop g) target := by
  obtain ⟨cl, A, S, r⟩ := F
  obtain ⟨T', h', X', e', W, st⟩ := stI X hx hZ eT A (inb_of S hj) hg hs hd
  exact ⟨T', h', X', e', W, Aw.set ⟨cl, A, S, r⟩ W rfl, st⟩
theorem own_stJ (X : Stand p l e R s m args below meth c T locs cells slots) (hx : p.tables.exec = Jvm.exec) (hZ : Z.Warmed39 s.vm) (eT : T.heap = h) (F : Aw Z h a .long n f) {j : Int32} {x : Int64} (hj : ¬ j < 0 ∧ j < n) {g : JFrame} (hg : g.method = m) {rest : List Value} (hs : g.stack = .long x :: .int j :: .ref a :: rest) (hd : decode c.code g.pc = .ok (.lastore, 1)) :
    ∃ T' h', Stand p l e R s m args below meth c T' (locs ++ [⟨a, j.toNatClampNeg⟩]) cells slots ∧ T'.heap = h' ∧ Wr h h' a j.toNatClampNeg (.long x) ∧ Aw Z h' a .long n (upd f j.toNatClampNeg (.long x)) ∧ ∀ target, Steps p.tables e below (T'.setTop { g with pc := g.pc + 1, stack := rest }) target → Steps p.tables e below (T.setTop g) target := by
  obtain ⟨cl, A, S, r⟩ := F
  obtain ⟨T', h', X', e', W, st⟩ := stJ X hx hZ eT A (inb_of S hj) hg hs hd
  exact ⟨T', h', X', e', W, Aw.set ⟨cl, A, S, r⟩ W rfl, st⟩
theorem own_stB (X : Stand p l e R s m args below meth c T locs cells slots) (hx : p.tables.exec = Jvm.exec) (hZ : Z.Warmed39 s.vm) (eT : T.heap = h) (F : Aw Z h a .byte n f) {j x : Int32} (hj : ¬ j < 0 ∧ j < n) {g : JFrame} (hg : g.method = m) {rest : List Value} (hs : g.stack = .int x :: .int j :: .ref a :: rest) (hd : decode c.code g.pc = .ok (.bastore, 1)) :
    ∃ T' h', Stand p l e R s m args below meth c T' (locs ++ [⟨a, j.toNatClampNeg⟩]) cells slots ∧ T'.heap = h' ∧ Wr h h' a j.toNatClampNeg (.int x.toInt8.toInt32) ∧ Aw Z h' a .byte n (upd f j.toNatClampNeg (.int x.toInt8.toInt32)) ∧ ∀ target, Steps p.tables e below (T'.setTop { g with pc := g.pc + 1, stack := rest }) target → Steps p.tables e below (T.setTop g) target := by
  obtain ⟨cl, A, S, r⟩ := F
  obtain ⟨T', h', X', e', W, st⟩ := stB X hx hZ eT A (inb_of S hj) hg hs hd
  exact ⟨T', h', X', e', W, Aw.set ⟨cl, A, S, r⟩ W (fits_nar_byte _), st⟩
theorem own_len (X : Stand p l e R s m args below meth c T locs cells slots) (hx : p.tables.exec = Jvm.exec) (hZ : Z.Warmed39 s.vm) (eT : T.heap = h) (F : Aw Z h a ty n f) {g : JFrame} (hg : g.method = m) {rest : List Value} (hs : g.stack = .ref a :: rest) (hd : decode c.code g.pc = .ok (.arraylength, 1)) (target : State)
    (k : Steps p.tables e below (T.setTop { g with pc := g.pc + 1, stack := .int n :: rest }) target) : Steps p.tables e below (T.setTop g) target := by
  obtain ⟨cl, A, S, N, -⟩ := F
  refine X.arraylength hx (by rw [eT]; exact A.1) (State.isArrayOf_alike hZ.alike A.2.1) hg hs hd _ ?_
  rw [len_of S N]; exact k
theorem own_ldI (X : Stand p l e R s m args below meth c T locs cells slots) (hx : p.tables.exec = Jvm.exec) (hZ : Z.Warmed39 s.vm) (eT : T.heap = h) (F : Aw Z h a .int n f) {j : Int32} (hj : ¬ j < 0 ∧ j < n) (hv : f j.toNatClampNeg = v) {g : JFrame} (hg : g.method = m) {rest : List Value} (hs : g.stack = .int j :: .ref a :: rest) (hd : decode c.code g.pc = .ok (.iaload, 1)) (target : State)
    (k : Steps p.tables e below (T.setTop { g with pc := g.pc + 1, stack := v :: rest }) target) : Steps p.tables e below (T.setTop g) target := by
  obtain ⟨cl, A, S, N, H, -⟩ := F
  have hin := inb_of S hj
  exact X.iaload hx (by rw [eT]; exact A.1) (State.isArrayOf_alike hZ.alike A.2.1) A.2.2 hin (hv ▸ H _ (Nat.lt_of_not_le fun q => hin (Or.inr q))) hg hs hd _ k
theorem own_ldJ (X : Stand p l e R s m args below meth c T locs cells slots) (hx : p.tables.exec = Jvm.exec) (hZ : Z.Warmed39 s.vm) (eT : T.heap = h) (F : Aw Z h a .long n f) {j : Int32} (hj : ¬ j < 0 ∧ j < n) (hv : f j.toNatClampNeg = v) {g : JFrame} (hg : g.method = m) {rest : List Value} (hs : g.stack = .int j :: .ref a :: rest) (hd : decode c.code g.pc = .ok (.laload, 1)) (target : State)
    (k : Steps p.tables e below (T.setTop { g with pc := g.pc + 1, stack := v :: rest }) target) : Steps p.tables e below (T.setTop g) target := by
  obtain ⟨cl, A, S, N, H, -⟩ := F
  have hin := inb_of S hj
  exact X.laload hx (by rw [eT]; exact A.1) (State.isArrayOf_alike hZ.alike A.2.1) A.2.2 hin (hv ▸ H _ (Nat.lt_of_not_le fun q => hin (Or.inr q))) hg hs hd _ k
theorem own_ldB (X : Stand p l e R s m args below meth c T locs cells slots) (hx : p.tables.exec = Jvm.exec) (hZ : Z.Warmed39 s.vm) (eT : T.heap = h) (F : Aw Z h a .byte n f) {j : Int32} (hj : ¬ j < 0 ∧ j < n) (hv : f j.toNatClampNeg = v) {g : JFrame} (hg : g.method = m) {rest : List Value} (hs : g.stack = .int j :: .ref a :: rest) (hd : decode c.code g.pc = .ok (.baload, 1)) (target : State)
    (k : Steps p.tables e below (T.setTop { g with pc := g.pc + 1, stack := v :: rest }) target) : Steps p.tables e below (T.setTop g) target := by
  obtain ⟨cl, A, S, N, H, -⟩ := F
  have hin := inb_of S hj
  exact X.baloadBytes hx (by rw [eT]; exact A.1) (State.isArrayOf_alike hZ.alike A.2.1) A.2.2 hin (hv ▸ H _ (Nat.lt_of_not_le fun q => hin (Or.inr q))) hg hs hd _ k
end OwnArr
theorem own_clone {p : Program} {l : Launch} {e : Env} {R : Room} {s : State} {m : MethodId} {args : Array Value} {below : List Frame} {meth : Method} {c : Code} {T : State} {locs : List Loc} {cells slots : Nat} {Z : State} {h : Heap} {a : Addr} {ty : FieldType} {n : Int32} {f : Nat → Value}
    (X : Stand p l e R s m args below meth c T locs cells slots) (hx : p.tables.exec = Jvm.exec) (hZ : Z.Warmed39 s.vm) {a0 : Array Value} {own ad : String} {index : Nat} (hown : s.vm.findClass own = some m.cls)
    (w1 : (Cond.methodLink own index ⟨ad, "clone", "()Ljava/lang/Object;"⟩).before a0 Z = true) (w2 : (Cond.sameMethod ad "java/lang/Object" "clone" "()Ljava/lang/Object;").before a0 Z = true) (w3 : (Cond.native ⟨"java/lang/Object", "clone", "()Ljava/lang/Object;"⟩).before a0 Z = true)
    (w4 : (Cond.instanceMethod ⟨"java/lang/Object", "clone", "()Ljava/lang/Object;"⟩).before a0 Z = true) (w5 : (Cond.selects ad ⟨ad, "clone", "()Ljava/lang/Object;"⟩ ⟨"java/lang/Object", "clone", "()Ljava/lang/Object;"⟩).before a0 Z = true) (w6 : (Cond.castable ad "java/lang/Cloneable").before a0 Z = true)
    (eT : T.heap = h) (F : Aw Z h a ty n f) (E : Exa Z h a ad) {g : JFrame} (hg : g.method = m) (hsize : g.locals.size = c.maxLocals) {rest : List Value} (hst : g.stack = .ref a :: rest) (hd : decode c.code g.pc = .ok (.invokevirtual index, 3))
    (hf : 1 ≤ R.frames) {W cap : Nat} (hW : 2 * g.monitorRoom + (rest.map fun v => v.category).sum ≤ W) (hl : W + 14 ≤ R.locals) (hcap : n.toNatClampNeg ≤ cap) (hc : cells + 1 ≤ R.cells) (hsl : slots + cap ≤ R.slots) :
    ∃ T' h', Stand p l e R s m args below meth c T' locs (cells + 1) (slots + cap) ∧ T'.heap = h' ∧ Ext h h' ∧ Aw Z h' h.size ty n f ∧ Exa Z h' h.size ad ∧
      ∀ target, Steps p.tables e below (T'.setTop { g with pc := g.pc + 3, stack := .ref h.size :: rest }) target → Steps p.tables e below (T.setTop g) target := by
  obtain ⟨cl, A, S, N, H, G⟩ := F
  have FC : FitC Z cl := fitC_of A fun i hi v hv => by rw [H i hi] at hv; cases hv; exact G i hi
  obtain ⟨T', h', X', e', ex, A', E', st⟩ := cloneA X hx hZ hown w1 w2 w3 w4 w5 w6 eT A E FC hg hsize hst hd hf hW hl (by rw [S]; exact hcap) hc hsl
  exact ⟨T', h', X', e', ex, ⟨cloneOf cl, A', S, N, H, G⟩, E', st⟩
def own_cap (n : Int32) : Int32 := if 0 < n then 1 else 0
theorem own_ne10 : ¬ ((1 : Int32) = 0) := by decide
theorem own_nz {n : Int32} (h : 0 < n) : ¬ n = 0 := fun q => by rw [q] at h; exact absurd h (by decide)

theorem d1_0 : decode prog_32_method_1_code 0 = .ok (.aload_n 0, 1) := by decide +kernel
theorem d1_1 : decode prog_32_method_1_code 1 = .ok (.invokespecial 1, 3) := by decide +kernel
theorem d1_4 : decode prog_32_method_1_code 4 = .ok (.aload_n 2, 1) := by decide +kernel
theorem d1_5 : decode prog_32_method_1_code 5 = .ok (.arraylength, 1) := by decide +kernel
theorem d1_6 : decode prog_32_method_1_code 6 = .ok (.ifCond .ne 13, 3) := by decide +kernel
theorem d1_9 : decode prog_32_method_1_code 9 = .ok (.aload_n 1, 1) := by decide +kernel
theorem d1_10 : decode prog_32_method_1_code 10 = .ok (.arraylength, 1) := by decide +kernel
theorem d1_11 : decode prog_32_method_1_code 11 = .ok (.iconst 2, 1) := by decide +kernel
theorem d1_12 : decode prog_32_method_1_code 12 = .ok (.if_icmp .ne 7, 3) := by decide +kernel
theorem d1_15 : decode prog_32_method_1_code 15 = .ok (.iconst 1, 1) := by decide +kernel
theorem d1_16 : decode prog_32_method_1_code 16 = .ok (.goto 4, 3) := by decide +kernel
theorem d1_19 : decode prog_32_method_1_code 19 = .ok (.iconst 0, 1) := by decide +kernel
theorem d1_20 : decode prog_32_method_1_code 20 = .ok (.istore 4, 2) := by decide +kernel
theorem d1_22 : decode prog_32_method_1_code 22 = .ok (.aload_n 2, 1) := by decide +kernel
theorem d1_23 : decode prog_32_method_1_code 23 = .ok (.arraylength, 1) := by decide +kernel
theorem d1_24 : decode prog_32_method_1_code 24 = .ok (.ifCond .le 16, 3) := by decide +kernel
theorem d1_27 : decode prog_32_method_1_code 27 = .ok (.aload_n 2, 1) := by decide +kernel
theorem d1_28 : decode prog_32_method_1_code 28 = .ok (.arraylength, 1) := by decide +kernel
theorem d1_29 : decode prog_32_method_1_code 29 = .ok (.aload_n 1, 1) := by decide +kernel
theorem d1_30 : decode prog_32_method_1_code 30 = .ok (.arraylength, 1) := by decide +kernel
theorem d1_31 : decode prog_32_method_1_code 31 = .ok (.iconst 1, 1) := by decide +kernel
theorem d1_32 : decode prog_32_method_1_code 32 = .ok (.isub, 1) := by decide +kernel
theorem d1_33 : decode prog_32_method_1_code 33 = .ok (.if_icmp .ne 7, 3) := by decide +kernel
theorem d1_36 : decode prog_32_method_1_code 36 = .ok (.iconst 1, 1) := by decide +kernel
theorem d1_37 : decode prog_32_method_1_code 37 = .ok (.goto 4, 3) := by decide +kernel
theorem d1_40 : decode prog_32_method_1_code 40 = .ok (.iconst 0, 1) := by decide +kernel
theorem d1_41 : decode prog_32_method_1_code 41 = .ok (.istore 5, 2) := by decide +kernel
theorem d1_43 : decode prog_32_method_1_code 43 = .ok (.iload 4, 2) := by decide +kernel
theorem d1_45 : decode prog_32_method_1_code 45 = .ok (.ifCond .ne 25, 3) := by decide +kernel
theorem d1_48 : decode prog_32_method_1_code 48 = .ok (.iload 5, 2) := by decide +kernel
theorem d1_50 : decode prog_32_method_1_code 50 = .ok (.ifCond .ne 20, 3) := by decide +kernel
theorem d1_53 : decode prog_32_method_1_code 53 = .ok (.new 7, 3) := by decide +kernel
theorem d1_56 : decode prog_32_method_1_code 56 = .ok (.dup, 1) := by decide +kernel
theorem d1_57 : decode prog_32_method_1_code 57 = .ok (.aload_n 1, 1) := by decide +kernel
theorem d1_58 : decode prog_32_method_1_code 58 = .ok (.arraylength, 1) := by decide +kernel
theorem d1_59 : decode prog_32_method_1_code 59 = .ok (.aload_n 2, 1) := by decide +kernel
theorem d1_60 : decode prog_32_method_1_code 60 = .ok (.arraylength, 1) := by decide +kernel
theorem d1_61 : decode prog_32_method_1_code 61 = .ok (.invokedynamic 9, 5) := by decide +kernel
theorem d1_66 : decode prog_32_method_1_code 66 = .ok (.invokespecial 13, 3) := by decide +kernel
theorem d1_69 : decode prog_32_method_1_code 69 = .ok (.athrow, 1) := by decide +kernel
theorem d1_70 : decode prog_32_method_1_code 70 = .ok (.aload_n 0, 1) := by decide +kernel
theorem d1_71 : decode prog_32_method_1_code 71 = .ok (.aload_n 1, 1) := by decide +kernel
theorem d1_72 : decode prog_32_method_1_code 72 = .ok (.invokevirtual 16, 3) := by decide +kernel
theorem d1_75 : decode prog_32_method_1_code 75 = .ok (.checkcast 17, 3) := by decide +kernel
theorem d1_78 : decode prog_32_method_1_code 78 = .ok (.putfield 22, 3) := by decide +kernel
theorem d1_81 : decode prog_32_method_1_code 81 = .ok (.aload_n 0, 1) := by decide +kernel
theorem d1_82 : decode prog_32_method_1_code 82 = .ok (.aload_n 2, 1) := by decide +kernel
theorem d1_83 : decode prog_32_method_1_code 83 = .ok (.invokevirtual 16, 3) := by decide +kernel
theorem d1_86 : decode prog_32_method_1_code 86 = .ok (.checkcast 17, 3) := by decide +kernel
theorem d1_89 : decode prog_32_method_1_code 89 = .ok (.putfield 27, 3) := by decide +kernel
theorem d1_92 : decode prog_32_method_1_code 92 = .ok (.aload_n 0, 1) := by decide +kernel
theorem d1_93 : decode prog_32_method_1_code 93 = .ok (.iload_n 3, 1) := by decide +kernel
theorem d1_94 : decode prog_32_method_1_code 94 = .ok (.putfield 30, 3) := by decide +kernel
theorem d1_97 : decode prog_32_method_1_code 97 = .ok (.return_, 1) := by decide +kernel
theorem pn_1 : plainName "com/example/damarium/damarium/position/Move" = true := by first | (simp [plainName, overriddenIn]; done) | decide +kernel
theorem ef_1 (m : MethodId) (a1 : Addr) (a2 : Addr) (a3 : Addr) (p1 : Int32) : entryFrame m #[(.ref a1), (.ref a2), (.ref a3), (.int p1)] 6 = mkF m 0 #[.val (.ref a1), .val (.ref a2), .val (.ref a3), .val (.int p1), .unset, .unset] [] := by first | (simp [entryFrame, mkF, argsToLocals, Value.category]; done) | rfl
def Q1 (Z : State) (a1 : Addr) (a2 : Addr) (a3 : Addr) (p1 : Int32) (n2 : Int32) (n3 : Int32) (f2 : Nat → Value) (f3 : Nat → Value) (h0 : Heap) (n0 : Nat) (v : Option Value) (h : Heap) (L : List Loc) : Prop := v = none ∧ Fr n0 L ∧ Keep h0 h [a1] ∧ ∃ b f, Fld Z h a1 "com/example/damarium/damarium/position/Move" "captured" "[I" (.ref b) ∧ Aw Z h b .int n3 f
set_option maxRecDepth 65536 in
set_option maxHeartbeats 40000000 in
theorem rm1 (l : Launch) (Z : State) (a0 : Array Value) (hw : ∀ d ∈ tables_1, d.before a0 Z = true) (ws : List Jvm.Cond) (a1 : Addr) (a2 : Addr) (a3 : Addr) (p1 : Int32) (n2 : Int32) (n3 : Int32) (f2 : Nat → Value) (f3 : Nat → Value) (h0 : Heap) (n0 : Nat) (Z0 : n0 ≤ h0.size) (g_a1 : n0 ≤ a1) (E1 : Exa Z h0 a1 "com/example/damarium/damarium/position/Move") (F0 : Fld Z h0 a1 "com/example/damarium/damarium/position/Move" "route" "[I" .null) (F1 : Fld Z h0 a1 "com/example/damarium/damarium/position/Move" "captured" "[I" .null) (F2 : Fld Z h0 a1 "com/example/damarium/damarium/position/Move" "crowns" "Z" (.int (0 : Int32))) (V2 : Aw Z h0 a2 .int n2 f2) (B2 : Exa Z h0 a2 "[I") (V3 : Aw Z h0 a3 .int n3 f3) (B3 : Exa Z h0 a3 "[I") (ne2 : a2 ≠ a1) (ne3 : a3 ≠ a1) (c2 : n2.toNatClampNeg ≤ 4) (c3 : n3.toNatClampNeg ≤ 4) (hC : (n3 = 0 ∧ n2 = 2) ∨ (0 < n3 ∧ n3 = n2 - 1)) :
    MetFree l (⟨"com/example/damarium/damarium/position/Move", "<init>", "([I[IZ)V"⟩ : MethodName) (head1 (Jvm.Cond.code (⟨"com/example/damarium/damarium/position/Move", "<init>", "([I[IZ)V"⟩ : MethodName) prog_32_method_1_code 6 none :: ws) ({ frames := 1, cells := 2, slots := 8, locals := 15 } : Room)) (fun a U => a = #[(.ref a1), (.ref a2), (.ref a3), (.int p1)] ∧ Z.Warmed39 U.vm ∧ U.heap = h0) (fun _ _ _ _ _ => True) (fun _ U o U' => ∃ v L, o = .returned v ∧ Q1 Z a1 a2 a3 p1 n2 n3 f2 f3 h0 n0 v U'.heap L ∧ FrameEnd U o U' L ({ frames := 1, cells := 2, slots := 8, locals := 15 } : Room).cells ({ frames := 1, cells := 2, slots := 8, locals := 15 } : Room).slots) := by
  refine MetFree.of_bodySF (plainFor_of_name pn_1) hisR ?_
  intro p e s m args below meth c s₁ Bd hml0 hP hK
  obtain ⟨rfl, hZ, hh⟩ := hP
  have hx := Bd.exec
  have hby := Bd.bytes
  have hlk := Bd.notSynchronized
  have hml : c.maxLocals = 6 := hml0
  have hown : s.vm.findClass "com/example/damarium/damarium/position/Move" = some m.cls := findClass_of_methodNamed Bd.named
  have hnm := (name_of_methodNamed Bd.named Bd.method).1
  have X0 : Stand p l e ({ frames := 1, cells := 2, slots := 8, locals := 15 } : Room) s m #[(.ref a1), (.ref a2), (.ref a3), (.int p1)] below meth c s₁ [] 0 0 := Stand.of_body Bd
  have e0 : s₁.heap = h0 := by rw [← hh, Bd.state]; rfl
  have N0 := Fr.nil n0
  show Goes p e below s 2 8 (Q1 Z a1 a2 a3 p1 n2 n3 f2 f3 h0 n0) s₁ (entryFrame m #[(.ref a1), (.ref a2), (.ref a3), (.int p1)] 6)
  refine goEq (ef_1 m a1 a2 a3 p1) ?_
  refine go (T' := s₁) (g' := (mkF m 1 #[.val (.ref a1), .val (.ref a2), .val (.ref a3), .val (.int p1), .unset, .unset] [(.ref a1)])) (fun t kt => XS.aloadN X0.here hx rfl (hb hby d1_0) rfl rfl kt) ?_
  obtain ⟨T1001, X1001, e1001, st1001⟩ := initO X0 hx hZ hown (hw _ (List.mem_of_getElem? (i := 8) rfl)) (hw _ (List.mem_of_getElem? (i := 9) rfl)) (hw _ (List.mem_of_getElem? (i := 10) rfl)) e0 (g := (mkF m 1 #[.val (.ref a1), .val (.ref a2), .val (.ref a3), .val (.int p1), .unset, .unset] [(.ref a1)])) rfl (by rw [hml]; rfl) rfl (hb hby d1_1) (by decide) (W := 0) (by show 2 * 0 + _ ≤ _; exact Nat.le_of_eq rfl) (by decide)
  refine go (T' := T1001) (g' := (mkF m 4 #[.val (.ref a1), .val (.ref a2), .val (.ref a3), .val (.int p1), .unset, .unset] [])) st1001 ?_
  refine go (T' := T1001) (g' := (mkF m 5 #[.val (.ref a1), .val (.ref a2), .val (.ref a3), .val (.int p1), .unset, .unset] [(.ref a3)])) (fun t kt => XS.aloadN X1001.here hx rfl (hb hby d1_4) rfl rfl kt) ?_
  rcases hC with ⟨hA1, hA2⟩ | ⟨hB1, hB2⟩
  · refine go (T' := T1001) (g' := (mkF m 6 #[.val (.ref a1), .val (.ref a2), .val (.ref a3), .val (.int p1), .unset, .unset] [(.int n3)])) (fun t kt => own_len X1001 hx hZ e1001 V3 (g := (mkF m 5 #[.val (.ref a1), .val (.ref a2), .val (.ref a3), .val (.int p1), .unset, .unset] [(.ref a3)])) rfl rfl (hb hby d1_5) _ kt) ?_
    refine go (T' := T1001) (g' := (mkF m 9 #[.val (.ref a1), .val (.ref a2), .val (.ref a3), .val (.int p1), .unset, .unset] [])) (fun t kt => XS.ifNo X1001.here hx rfl (hb hby d1_6) rfl ((if0 _ _).trans (teq hA1).2) kt) ?_
    refine go (T' := T1001) (g' := (mkF m 10 #[.val (.ref a1), .val (.ref a2), .val (.ref a3), .val (.int p1), .unset, .unset] [(.ref a2)])) (fun t kt => XS.aloadN X1001.here hx rfl (hb hby d1_9) rfl rfl kt) ?_
    refine go (T' := T1001) (g' := (mkF m 11 #[.val (.ref a1), .val (.ref a2), .val (.ref a3), .val (.int p1), .unset, .unset] [(.int n2)])) (fun t kt => own_len X1001 hx hZ e1001 V2 (g := (mkF m 10 #[.val (.ref a1), .val (.ref a2), .val (.ref a3), .val (.int p1), .unset, .unset] [(.ref a2)])) rfl rfl (hb hby d1_10) _ kt) ?_
    refine go (T' := T1001) (g' := (mkF m 12 #[.val (.ref a1), .val (.ref a2), .val (.ref a3), .val (.int p1), .unset, .unset] [(.int (2 : Int32)), (.int n2)])) (fun t kt => XS.iconst X1001.here hx rfl (hb hby d1_11) kt) ?_
    refine go (T' := T1001) (g' := (mkF m 15 #[.val (.ref a1), .val (.ref a2), .val (.ref a3), .val (.int p1), .unset, .unset] [])) (fun t kt => XS.icmpNo X1001.here hx rfl (hb hby d1_12) rfl (teq hA2).2 kt) ?_
    refine go (T' := T1001) (g' := (mkF m 16 #[.val (.ref a1), .val (.ref a2), .val (.ref a3), .val (.int p1), .unset, .unset] [(.int (1 : Int32))])) (fun t kt => XS.iconst X1001.here hx rfl (hb hby d1_15) kt) ?_
    refine go (T' := T1001) (g' := (mkF m 20 #[.val (.ref a1), .val (.ref a2), .val (.ref a3), .val (.int p1), .unset, .unset] [(.int (1 : Int32))])) (fun t kt => XS.goto X1001.here hx rfl (pc0 := 16) (pc' := 20) rfl (hb hby d1_16) (by decide) (by decide) kt) ?_
    refine go (T' := T1001) (g' := (mkF m 22 #[.val (.ref a1), .val (.ref a2), .val (.ref a3), .val (.int p1), .val (.int (1 : Int32)), .unset] [])) (fun t kt => XS.istore X1001.here hx rfl (hb hby d1_20) rfl (l' := #[.val (.ref a1), .val (.ref a2), .val (.ref a3), .val (.int p1), .val (.int (1 : Int32)), .unset]) rfl kt) ?_
    refine go (T' := T1001) (g' := (mkF m 23 #[.val (.ref a1), .val (.ref a2), .val (.ref a3), .val (.int p1), .val (.int (1 : Int32)), .unset] [(.ref a3)])) (fun t kt => XS.aloadN X1001.here hx rfl (hb hby d1_22) rfl rfl kt) ?_
    refine go (T' := T1001) (g' := (mkF m 24 #[.val (.ref a1), .val (.ref a2), .val (.ref a3), .val (.int p1), .val (.int (1 : Int32)), .unset] [(.int n3)])) (fun t kt => own_len X1001 hx hZ e1001 V3 (g := (mkF m 23 #[.val (.ref a1), .val (.ref a2), .val (.ref a3), .val (.int p1), .val (.int (1 : Int32)), .unset] [(.ref a3)])) rfl rfl (hb hby d1_23) _ kt) ?_
    refine go (T' := T1001) (g' := (mkF m 40 #[.val (.ref a1), .val (.ref a2), .val (.ref a3), .val (.int p1), .val (.int (1 : Int32)), .unset] [])) (fun t kt => XS.ifYes X1001.here hx rfl (pc0 := 24) (pc' := 40) rfl (hb hby d1_24) rfl ((if0 _ _).trans (flt (by rw [hA1]; decide)).2.2.2) (by decide) (by decide) kt) ?_
    refine go (T' := T1001) (g' := (mkF m 41 #[.val (.ref a1), .val (.ref a2), .val (.ref a3), .val (.int p1), .val (.int (1 : Int32)), .unset] [(.int (0 : Int32))])) (fun t kt => XS.iconst X1001.here hx rfl (hb hby d1_40) kt) ?_
    refine go (T' := T1001) (g' := (mkF m 43 #[.val (.ref a1), .val (.ref a2), .val (.ref a3), .val (.int p1), .val (.int (1 : Int32)), .val (.int (0 : Int32))] [])) (fun t kt => XS.istore X1001.here hx rfl (hb hby d1_41) rfl (l' := #[.val (.ref a1), .val (.ref a2), .val (.ref a3), .val (.int p1), .val (.int (1 : Int32)), .val (.int (0 : Int32))]) rfl kt) ?_
    refine go (T' := T1001) (g' := (mkF m 45 #[.val (.ref a1), .val (.ref a2), .val (.ref a3), .val (.int p1), .val (.int (1 : Int32)), .val (.int (0 : Int32))] [(.int (1 : Int32))])) (fun t kt => XS.iload X1001.here hx rfl (hb hby d1_43) rfl kt) ?_
    refine go (T' := T1001) (g' := (mkF m 70 #[.val (.ref a1), .val (.ref a2), .val (.ref a3), .val (.int p1), .val (.int (1 : Int32)), .val (.int (0 : Int32))] [])) (fun t kt => XS.ifYes X1001.here hx rfl (pc0 := 45) (pc' := 70) rfl (hb hby d1_45) rfl ((if0 _ _).trans (feq own_ne10).2) (by decide) (by decide) kt) ?_
    refine go (T' := T1001) (g' := (mkF m 71 #[.val (.ref a1), .val (.ref a2), .val (.ref a3), .val (.int p1), .val (.int (1 : Int32)), .val (.int (0 : Int32))] [(.ref a1)])) (fun t kt => XS.aloadN X1001.here hx rfl (hb hby d1_70) rfl rfl kt) ?_
    refine go (T' := T1001) (g' := (mkF m 72 #[.val (.ref a1), .val (.ref a2), .val (.ref a3), .val (.int p1), .val (.int (1 : Int32)), .val (.int (0 : Int32))] [(.ref a2), (.ref a1)])) (fun t kt => XS.aloadN X1001.here hx rfl (hb hby d1_71) rfl rfl kt) ?_
    obtain ⟨T1002, h1002, X1002, e1002, E1002, A1002, B1002, st1002⟩ := own_clone X1001 hx hZ hown (hw _ (List.mem_of_getElem? (i := 11) rfl)) (hw _ (List.mem_of_getElem? (i := 12) rfl)) (hw _ (List.mem_of_getElem? (i := 16) rfl)) (hw _ (List.mem_of_getElem? (i := 14) rfl)) (hw _ (List.mem_of_getElem? (i := 15) rfl)) (hw _ (List.mem_of_getElem? (i := 17) rfl)) e1001 V2 B2 (g := (mkF m 72 #[.val (.ref a1), .val (.ref a2), .val (.ref a3), .val (.int p1), .val (.int (1 : Int32)), .val (.int (0 : Int32))] [(.ref a2), (.ref a1)])) rfl (by rw [hml]; rfl) rfl (hb hby d1_72) (by decide) (W := 1) (cap := 4) (by show 2 * 0 + _ ≤ _; exact Nat.le_of_eq rfl) (by decide) c2 (by decide) (by decide)
    obtain ⟨br, g1002⟩ : ∃ z, z = h0.size := ⟨_, rfl⟩
    rw [← g1002] at A1002 B1002 st1002
    have ne_a1_br : a1 ≠ br := Nat.ne_of_lt (Nat.lt_of_lt_of_le E1.lt (Nat.le_of_eq g1002.symm))
    have ne_a2_br : a2 ≠ br := Nat.ne_of_lt (Nat.lt_of_lt_of_le V2.lt (Nat.le_of_eq g1002.symm))
    have ne_a3_br : a3 ≠ br := Nat.ne_of_lt (Nat.lt_of_lt_of_le V3.lt (Nat.le_of_eq g1002.symm))
    have g_br : n0 ≤ br := Nat.le_trans Z0 (Nat.le_of_eq g1002.symm)
    have o_br : h0.size ≤ br := Nat.le_trans (Keep.refl h0 [a1]).1 (Nat.le_of_eq g1002.symm)
    have z1002 : n0 ≤ h1002.size := Nat.le_trans Z0 E1002.1
    have fE_a1_1002 : Exa Z h1002 a1 "com/example/damarium/damarium/position/Move" := E1.ext E1002
    have fF_a1_route_1002 : Fld Z h1002 a1 "com/example/damarium/damarium/position/Move" "route" "[I" .null := F0.ext E1002
    have fF_a1_captured_1002 : Fld Z h1002 a1 "com/example/damarium/damarium/position/Move" "captured" "[I" .null := F1.ext E1002
    have fF_a1_crowns_1002 : Fld Z h1002 a1 "com/example/damarium/damarium/position/Move" "crowns" "Z" (.int (0 : Int32)) := F2.ext E1002
    have fA_a2_1002 : Aw Z h1002 a2 .int n2 f2 := V2.ext E1002
    have fA_a3_1002 : Aw Z h1002 a3 .int n3 f3 := V3.ext E1002
    have fE_a2_1002 : Exa Z h1002 a2 "[I" := B2.ext E1002
    have fE_a3_1002 : Exa Z h1002 a3 "[I" := B3.ext E1002
    have K1002 : Keep h0 h1002 [a1] := (Keep.refl h0 [a1]).ext E1002
    refine go (T' := T1002) (g' := (mkF m 75 #[.val (.ref a1), .val (.ref a2), .val (.ref a3), .val (.int p1), .val (.int (1 : Int32)), .val (.int (0 : Int32))] [(.ref br), (.ref a1)])) st1002 ?_
    obtain ⟨T1003, X1003, e1003, st1003⟩ := castY X1002 hx hZ hown (hw _ (List.mem_of_getElem? (i := 18) rfl)) e1002 (Ins.self B1002) (g := (mkF m 75 #[.val (.ref a1), .val (.ref a2), .val (.ref a3), .val (.int p1), .val (.int (1 : Int32)), .val (.int (0 : Int32))] [(.ref br), (.ref a1)])) rfl rfl (hb hby d1_75)
    refine go (T' := T1003) (g' := (mkF m 78 #[.val (.ref a1), .val (.ref a2), .val (.ref a3), .val (.int p1), .val (.int (1 : Int32)), .val (.int (0 : Int32))] [(.ref br), (.ref a1)])) st1003 ?_
    obtain ⟨T1004, h1004, X1004, e1004, W1004, st1004⟩ := putF X1003 hx hZ hown (host := "") (Or.inl (hw _ (List.mem_of_getElem? (i := 20) rfl))) Via.refl e1003 fF_a1_route_1002 fE_a1_1002 (Or.inr ⟨(hw _ (List.mem_of_getElem? (i := 21) rfl)), rfl, hnm⟩) (hw _ (List.mem_of_getElem? (i := 3) rfl)) (ty := (.array .int)) (by decide) rfl rfl (g := (mkF m 78 #[.val (.ref a1), .val (.ref a2), .val (.ref a3), .val (.int p1), .val (.int (1 : Int32)), .val (.int (0 : Int32))] [(.ref br), (.ref a1)])) rfl rfl (hb hby d1_78)
    have z1004 : n0 ≤ h1004.size := Nat.le_trans z1002 (Keep.of_wr W1004).1
    have fE_a1_1004 : Exa Z h1004 a1 "com/example/damarium/damarium/position/Move" := fE_a1_1002.wr W1004
    have fF_a1_captured_1004 : Fld Z h1004 a1 "com/example/damarium/damarium/position/Move" "captured" "[I" .null := fF_a1_captured_1002.other W1004 (Or.inr (slot_ne (Or.inr (hw _ (List.mem_of_getElem? (i := 23) rfl))) (Or.inr (hw _ (List.mem_of_getElem? (i := 21) rfl))) (by decide) (t := (.array .int)) (t' := (.array .int)) (by decide) (by decide)))
    have fF_a1_crowns_1004 : Fld Z h1004 a1 "com/example/damarium/damarium/position/Move" "crowns" "Z" (.int (0 : Int32)) := fF_a1_crowns_1002.other W1004 (Or.inr (slot_ne (Or.inr (hw _ (List.mem_of_getElem? (i := 25) rfl))) (Or.inr (hw _ (List.mem_of_getElem? (i := 21) rfl))) (by decide) (t := .boolean) (t' := (.array .int)) (by decide) (by decide)))
    have fA_a3_1004 : Aw Z h1004 a3 .int n3 f3 := fA_a3_1002.other W1004 ne3
    have fE_a3_1004 : Exa Z h1004 a3 "[I" := fE_a3_1002.wr W1004
    have fA_br_1004 : Aw Z h1004 br .int n2 f2 := A1002.other W1004 (Ne.symm ne_a1_br)
    have fE_br_1004 : Exa Z h1004 br "[I" := B1002.wr W1004
    have Fw1004 : Fld Z h1004 a1 "com/example/damarium/damarium/position/Move" "route" "[I" (.ref br) := fF_a1_route_1002.same W1004
    have K1004 : Keep h0 h1004 [a1] := K1002.wr W1004 (Or.inl (List.mem_of_getElem? (i := 0) rfl))
    have N1004 := Fr.snoc X1004 N0 g_a1
    refine go (T' := T1004) (g' := (mkF m 81 #[.val (.ref a1), .val (.ref a2), .val (.ref a3), .val (.int p1), .val (.int (1 : Int32)), .val (.int (0 : Int32))] [])) st1004 ?_
    refine go (T' := T1004) (g' := (mkF m 82 #[.val (.ref a1), .val (.ref a2), .val (.ref a3), .val (.int p1), .val (.int (1 : Int32)), .val (.int (0 : Int32))] [(.ref a1)])) (fun t kt => XS.aloadN X1004.here hx rfl (hb hby d1_81) rfl rfl kt) ?_
    refine go (T' := T1004) (g' := (mkF m 83 #[.val (.ref a1), .val (.ref a2), .val (.ref a3), .val (.int p1), .val (.int (1 : Int32)), .val (.int (0 : Int32))] [(.ref a3), (.ref a1)])) (fun t kt => XS.aloadN X1004.here hx rfl (hb hby d1_82) rfl rfl kt) ?_
    obtain ⟨T1005, h1005, X1005, e1005, E1005, A1005, B1005, st1005⟩ := own_clone X1004 hx hZ hown (hw _ (List.mem_of_getElem? (i := 11) rfl)) (hw _ (List.mem_of_getElem? (i := 12) rfl)) (hw _ (List.mem_of_getElem? (i := 16) rfl)) (hw _ (List.mem_of_getElem? (i := 14) rfl)) (hw _ (List.mem_of_getElem? (i := 15) rfl)) (hw _ (List.mem_of_getElem? (i := 17) rfl)) e1004 fA_a3_1004 fE_a3_1004 (g := (mkF m 83 #[.val (.ref a1), .val (.ref a2), .val (.ref a3), .val (.int p1), .val (.int (1 : Int32)), .val (.int (0 : Int32))] [(.ref a3), (.ref a1)])) rfl (by rw [hml]; rfl) rfl (hb hby d1_83) (by decide) (W := 1) (cap := 4) (by show 2 * 0 + _ ≤ _; exact Nat.le_of_eq rfl) (by decide) c3 (by decide) (by decide)
    obtain ⟨bc, g1005⟩ : ∃ z, z = h1004.size := ⟨_, rfl⟩
    rw [← g1005] at A1005 B1005 st1005
    have ne_a1_bc : a1 ≠ bc := Nat.ne_of_lt (Nat.lt_of_lt_of_le fE_a1_1004.lt (Nat.le_of_eq g1005.symm))
    have ne_a3_bc : a3 ≠ bc := Nat.ne_of_lt (Nat.lt_of_lt_of_le fA_a3_1004.lt (Nat.le_of_eq g1005.symm))
    have g_bc : n0 ≤ bc := Nat.le_trans z1004 (Nat.le_of_eq g1005.symm)
    have o_bc : h0.size ≤ bc := Nat.le_trans K1004.1 (Nat.le_of_eq g1005.symm)
    have z1005 : n0 ≤ h1005.size := Nat.le_trans z1004 E1005.1
    have fE_a1_1005 : Exa Z h1005 a1 "com/example/damarium/damarium/position/Move" := fE_a1_1004.ext E1005
    have fF_a1_route_1005 : Fld Z h1005 a1 "com/example/damarium/damarium/position/Move" "route" "[I" (.ref br) := Fw1004.ext E1005
    have fF_a1_captured_1005 : Fld Z h1005 a1 "com/example/damarium/damarium/position/Move" "captured" "[I" .null := fF_a1_captured_1004.ext E1005
    have fF_a1_crowns_1005 : Fld Z h1005 a1 "com/example/damarium/damarium/position/Move" "crowns" "Z" (.int (0 : Int32)) := fF_a1_crowns_1004.ext E1005
    have fA_a3_1005 : Aw Z h1005 a3 .int n3 f3 := fA_a3_1004.ext E1005
    have fE_a3_1005 : Exa Z h1005 a3 "[I" := fE_a3_1004.ext E1005
    have K1005 : Keep h0 h1005 [a1] := K1004.ext E1005
    refine go (T' := T1005) (g' := (mkF m 86 #[.val (.ref a1), .val (.ref a2), .val (.ref a3), .val (.int p1), .val (.int (1 : Int32)), .val (.int (0 : Int32))] [(.ref bc), (.ref a1)])) st1005 ?_
    obtain ⟨T1006, X1006, e1006, st1006⟩ := castY X1005 hx hZ hown (hw _ (List.mem_of_getElem? (i := 18) rfl)) e1005 (Ins.self B1005) (g := (mkF m 86 #[.val (.ref a1), .val (.ref a2), .val (.ref a3), .val (.int p1), .val (.int (1 : Int32)), .val (.int (0 : Int32))] [(.ref bc), (.ref a1)])) rfl rfl (hb hby d1_86)
    refine go (T' := T1006) (g' := (mkF m 89 #[.val (.ref a1), .val (.ref a2), .val (.ref a3), .val (.int p1), .val (.int (1 : Int32)), .val (.int (0 : Int32))] [(.ref bc), (.ref a1)])) st1006 ?_
    obtain ⟨T1007, h1007, X1007, e1007, W1007, st1007⟩ := putF X1006 hx hZ hown (host := "") (Or.inl (hw _ (List.mem_of_getElem? (i := 22) rfl))) Via.refl e1006 fF_a1_captured_1005 fE_a1_1005 (Or.inr ⟨(hw _ (List.mem_of_getElem? (i := 23) rfl)), rfl, hnm⟩) (hw _ (List.mem_of_getElem? (i := 3) rfl)) (ty := (.array .int)) (by decide) rfl rfl (g := (mkF m 89 #[.val (.ref a1), .val (.ref a2), .val (.ref a3), .val (.int p1), .val (.int (1 : Int32)), .val (.int (0 : Int32))] [(.ref bc), (.ref a1)])) rfl rfl (hb hby d1_89)
    have z1007 : n0 ≤ h1007.size := Nat.le_trans z1005 (Keep.of_wr W1007).1
    have fE_a1_1007 : Exa Z h1007 a1 "com/example/damarium/damarium/position/Move" := fE_a1_1005.wr W1007
    have fF_a1_route_1007 : Fld Z h1007 a1 "com/example/damarium/damarium/position/Move" "route" "[I" (.ref br) := fF_a1_route_1005.other W1007 (Or.inr (slot_ne (Or.inr (hw _ (List.mem_of_getElem? (i := 21) rfl))) (Or.inr (hw _ (List.mem_of_getElem? (i := 23) rfl))) (by decide) (t := (.array .int)) (t' := (.array .int)) (by decide) (by decide)))
    have fF_a1_crowns_1007 : Fld Z h1007 a1 "com/example/damarium/damarium/position/Move" "crowns" "Z" (.int (0 : Int32)) := fF_a1_crowns_1005.other W1007 (Or.inr (slot_ne (Or.inr (hw _ (List.mem_of_getElem? (i := 25) rfl))) (Or.inr (hw _ (List.mem_of_getElem? (i := 23) rfl))) (by decide) (t := .boolean) (t' := (.array .int)) (by decide) (by decide)))
    have fA_bc_1007 : Aw Z h1007 bc .int n3 f3 := A1005.other W1007 (Ne.symm ne_a1_bc)
    have fE_bc_1007 : Exa Z h1007 bc "[I" := B1005.wr W1007
    have Fw1007 : Fld Z h1007 a1 "com/example/damarium/damarium/position/Move" "captured" "[I" (.ref bc) := fF_a1_captured_1005.same W1007
    have K1007 : Keep h0 h1007 [a1] := K1005.wr W1007 (Or.inl (List.mem_of_getElem? (i := 0) rfl))
    have N1007 := Fr.snoc X1007 N1004 g_a1
    refine go (T' := T1007) (g' := (mkF m 92 #[.val (.ref a1), .val (.ref a2), .val (.ref a3), .val (.int p1), .val (.int (1 : Int32)), .val (.int (0 : Int32))] [])) st1007 ?_
    refine go (T' := T1007) (g' := (mkF m 93 #[.val (.ref a1), .val (.ref a2), .val (.ref a3), .val (.int p1), .val (.int (1 : Int32)), .val (.int (0 : Int32))] [(.ref a1)])) (fun t kt => XS.aloadN X1007.here hx rfl (hb hby d1_92) rfl rfl kt) ?_
    refine go (T' := T1007) (g' := (mkF m 94 #[.val (.ref a1), .val (.ref a2), .val (.ref a3), .val (.int p1), .val (.int (1 : Int32)), .val (.int (0 : Int32))] [(.int p1), (.ref a1)])) (fun t kt => XS.iloadN X1007.here hx rfl (hb hby d1_93) rfl kt) ?_
    obtain ⟨T1008, h1008, X1008, e1008, W1008, st1008⟩ := putFN X1007 hx hZ hown (hw _ (List.mem_of_getElem? (i := 24) rfl)) Via.refl e1007 fF_a1_crowns_1007 fE_a1_1007 (Or.inr ⟨(hw _ (List.mem_of_getElem? (i := 25) rfl)), rfl, hnm⟩) (hw _ (List.mem_of_getElem? (i := 3) rfl)) (ty := .boolean) (v' := (.int (nar .boolean p1))) (by decide) rfl (fits_nar_bool _) (g := (mkF m 94 #[.val (.ref a1), .val (.ref a2), .val (.ref a3), .val (.int p1), .val (.int (1 : Int32)), .val (.int (0 : Int32))] [(.int p1), (.ref a1)])) rfl rfl (hb hby d1_94)
    have z1008 : n0 ≤ h1008.size := Nat.le_trans z1007 (Keep.of_wr W1008).1
    have fE_a1_1008 : Exa Z h1008 a1 "com/example/damarium/damarium/position/Move" := fE_a1_1007.wr W1008
    have fF_a1_route_1008 : Fld Z h1008 a1 "com/example/damarium/damarium/position/Move" "route" "[I" (.ref br) := fF_a1_route_1007.other W1008 (Or.inr (slot_ne (Or.inr (hw _ (List.mem_of_getElem? (i := 21) rfl))) (Or.inr (hw _ (List.mem_of_getElem? (i := 25) rfl))) (by decide) (t := (.array .int)) (t' := .boolean) (by decide) (by decide)))
    have fF_a1_captured_1008 : Fld Z h1008 a1 "com/example/damarium/damarium/position/Move" "captured" "[I" (.ref bc) := Fw1007.other W1008 (Or.inr (slot_ne (Or.inr (hw _ (List.mem_of_getElem? (i := 23) rfl))) (Or.inr (hw _ (List.mem_of_getElem? (i := 25) rfl))) (by decide) (t := (.array .int)) (t' := .boolean) (by decide) (by decide)))
    have fA_bc_1008 : Aw Z h1008 bc .int n3 f3 := fA_bc_1007.other W1008 (Ne.symm ne_a1_bc)
    have fE_bc_1008 : Exa Z h1008 bc "[I" := fE_bc_1007.wr W1008
    have Fw1008 : Fld Z h1008 a1 "com/example/damarium/damarium/position/Move" "crowns" "Z" (.int (nar .boolean p1)) := fF_a1_crowns_1007.same W1008
    have K1008 : Keep h0 h1008 [a1] := K1007.wr W1008 (Or.inl (List.mem_of_getElem? (i := 0) rfl))
    have N1008 := Fr.snoc X1008 N1007 g_a1
    refine go (T' := T1008) (g' := (mkF m 97 #[.val (.ref a1), .val (.ref a2), .val (.ref a3), .val (.int p1), .val (.int (1 : Int32)), .val (.int (0 : Int32))] [])) st1008 ?_
    refine goRetV X1008 hx hlk Bd.returns (hb hby d1_97) ?_ (by decide) (by decide)
    rw [e1008]
    exact ⟨rfl, N1008, K1008, bc, f3, fF_a1_captured_1008, fA_bc_1008⟩
  · refine go (T' := T1001) (g' := (mkF m 6 #[.val (.ref a1), .val (.ref a2), .val (.ref a3), .val (.int p1), .unset, .unset] [(.int n3)])) (fun t kt => own_len X1001 hx hZ e1001 V3 (g := (mkF m 5 #[.val (.ref a1), .val (.ref a2), .val (.ref a3), .val (.int p1), .unset, .unset] [(.ref a3)])) rfl rfl (hb hby d1_5) _ kt) ?_
    refine go (T' := T1001) (g' := (mkF m 19 #[.val (.ref a1), .val (.ref a2), .val (.ref a3), .val (.int p1), .unset, .unset] [])) (fun t kt => XS.ifYes X1001.here hx rfl (pc0 := 6) (pc' := 19) rfl (hb hby d1_6) rfl ((if0 _ _).trans (feq (own_nz hB1)).2) (by decide) (by decide) kt) ?_
    refine go (T' := T1001) (g' := (mkF m 20 #[.val (.ref a1), .val (.ref a2), .val (.ref a3), .val (.int p1), .unset, .unset] [(.int (0 : Int32))])) (fun t kt => XS.iconst X1001.here hx rfl (hb hby d1_19) kt) ?_
    refine go (T' := T1001) (g' := (mkF m 22 #[.val (.ref a1), .val (.ref a2), .val (.ref a3), .val (.int p1), .val (.int (0 : Int32)), .unset] [])) (fun t kt => XS.istore X1001.here hx rfl (hb hby d1_20) rfl (l' := #[.val (.ref a1), .val (.ref a2), .val (.ref a3), .val (.int p1), .val (.int (0 : Int32)), .unset]) rfl kt) ?_
    refine go (T' := T1001) (g' := (mkF m 23 #[.val (.ref a1), .val (.ref a2), .val (.ref a3), .val (.int p1), .val (.int (0 : Int32)), .unset] [(.ref a3)])) (fun t kt => XS.aloadN X1001.here hx rfl (hb hby d1_22) rfl rfl kt) ?_
    refine go (T' := T1001) (g' := (mkF m 24 #[.val (.ref a1), .val (.ref a2), .val (.ref a3), .val (.int p1), .val (.int (0 : Int32)), .unset] [(.int n3)])) (fun t kt => own_len X1001 hx hZ e1001 V3 (g := (mkF m 23 #[.val (.ref a1), .val (.ref a2), .val (.ref a3), .val (.int p1), .val (.int (0 : Int32)), .unset] [(.ref a3)])) rfl rfl (hb hby d1_23) _ kt) ?_
    refine go (T' := T1001) (g' := (mkF m 27 #[.val (.ref a1), .val (.ref a2), .val (.ref a3), .val (.int p1), .val (.int (0 : Int32)), .unset] [])) (fun t kt => XS.ifNo X1001.here hx rfl (hb hby d1_24) rfl ((if0 _ _).trans (tlt hB1).2.2.2) kt) ?_
    refine go (T' := T1001) (g' := (mkF m 28 #[.val (.ref a1), .val (.ref a2), .val (.ref a3), .val (.int p1), .val (.int (0 : Int32)), .unset] [(.ref a3)])) (fun t kt => XS.aloadN X1001.here hx rfl (hb hby d1_27) rfl rfl kt) ?_
    refine go (T' := T1001) (g' := (mkF m 29 #[.val (.ref a1), .val (.ref a2), .val (.ref a3), .val (.int p1), .val (.int (0 : Int32)), .unset] [(.int n3)])) (fun t kt => own_len X1001 hx hZ e1001 V3 (g := (mkF m 28 #[.val (.ref a1), .val (.ref a2), .val (.ref a3), .val (.int p1), .val (.int (0 : Int32)), .unset] [(.ref a3)])) rfl rfl (hb hby d1_28) _ kt) ?_
    refine go (T' := T1001) (g' := (mkF m 30 #[.val (.ref a1), .val (.ref a2), .val (.ref a3), .val (.int p1), .val (.int (0 : Int32)), .unset] [(.ref a2), (.int n3)])) (fun t kt => XS.aloadN X1001.here hx rfl (hb hby d1_29) rfl rfl kt) ?_
    refine go (T' := T1001) (g' := (mkF m 31 #[.val (.ref a1), .val (.ref a2), .val (.ref a3), .val (.int p1), .val (.int (0 : Int32)), .unset] [(.int n2), (.int n3)])) (fun t kt => own_len X1001 hx hZ e1001 V2 (g := (mkF m 30 #[.val (.ref a1), .val (.ref a2), .val (.ref a3), .val (.int p1), .val (.int (0 : Int32)), .unset] [(.ref a2), (.int n3)])) rfl rfl (hb hby d1_30) _ kt) ?_
    refine go (T' := T1001) (g' := (mkF m 32 #[.val (.ref a1), .val (.ref a2), .val (.ref a3), .val (.int p1), .val (.int (0 : Int32)), .unset] [(.int (1 : Int32)), (.int n2), (.int n3)])) (fun t kt => XS.iconst X1001.here hx rfl (hb hby d1_31) kt) ?_
    refine go (T' := T1001) (g' := (mkF m 33 #[.val (.ref a1), .val (.ref a2), .val (.ref a3), .val (.int p1), .val (.int (0 : Int32)), .unset] [(.int (n2 - (1 : Int32))), (.int n3)])) (fun t kt => XS.isub X1001.here hx rfl (hb hby d1_32) rfl kt) ?_
    refine go (T' := T1001) (g' := (mkF m 36 #[.val (.ref a1), .val (.ref a2), .val (.ref a3), .val (.int p1), .val (.int (0 : Int32)), .unset] [])) (fun t kt => XS.icmpNo X1001.here hx rfl (hb hby d1_33) rfl (teq hB2).2 kt) ?_
    refine go (T' := T1001) (g' := (mkF m 37 #[.val (.ref a1), .val (.ref a2), .val (.ref a3), .val (.int p1), .val (.int (0 : Int32)), .unset] [(.int (1 : Int32))])) (fun t kt => XS.iconst X1001.here hx rfl (hb hby d1_36) kt) ?_
    refine go (T' := T1001) (g' := (mkF m 41 #[.val (.ref a1), .val (.ref a2), .val (.ref a3), .val (.int p1), .val (.int (0 : Int32)), .unset] [(.int (1 : Int32))])) (fun t kt => XS.goto X1001.here hx rfl (pc0 := 37) (pc' := 41) rfl (hb hby d1_37) (by decide) (by decide) kt) ?_
    refine go (T' := T1001) (g' := (mkF m 43 #[.val (.ref a1), .val (.ref a2), .val (.ref a3), .val (.int p1), .val (.int (0 : Int32)), .val (.int (1 : Int32))] [])) (fun t kt => XS.istore X1001.here hx rfl (hb hby d1_41) rfl (l' := #[.val (.ref a1), .val (.ref a2), .val (.ref a3), .val (.int p1), .val (.int (0 : Int32)), .val (.int (1 : Int32))]) rfl kt) ?_
    refine go (T' := T1001) (g' := (mkF m 45 #[.val (.ref a1), .val (.ref a2), .val (.ref a3), .val (.int p1), .val (.int (0 : Int32)), .val (.int (1 : Int32))] [(.int (0 : Int32))])) (fun t kt => XS.iload X1001.here hx rfl (hb hby d1_43) rfl kt) ?_
    refine go (T' := T1001) (g' := (mkF m 48 #[.val (.ref a1), .val (.ref a2), .val (.ref a3), .val (.int p1), .val (.int (0 : Int32)), .val (.int (1 : Int32))] [])) (fun t kt => XS.ifNo X1001.here hx rfl (hb hby d1_45) rfl ((if0 _ _).trans (teq rfl).2) kt) ?_
    refine go (T' := T1001) (g' := (mkF m 50 #[.val (.ref a1), .val (.ref a2), .val (.ref a3), .val (.int p1), .val (.int (0 : Int32)), .val (.int (1 : Int32))] [(.int (1 : Int32))])) (fun t kt => XS.iload X1001.here hx rfl (hb hby d1_48) rfl kt) ?_
    refine go (T' := T1001) (g' := (mkF m 70 #[.val (.ref a1), .val (.ref a2), .val (.ref a3), .val (.int p1), .val (.int (0 : Int32)), .val (.int (1 : Int32))] [])) (fun t kt => XS.ifYes X1001.here hx rfl (pc0 := 50) (pc' := 70) rfl (hb hby d1_50) rfl ((if0 _ _).trans (feq own_ne10).2) (by decide) (by decide) kt) ?_
    refine go (T' := T1001) (g' := (mkF m 71 #[.val (.ref a1), .val (.ref a2), .val (.ref a3), .val (.int p1), .val (.int (0 : Int32)), .val (.int (1 : Int32))] [(.ref a1)])) (fun t kt => XS.aloadN X1001.here hx rfl (hb hby d1_70) rfl rfl kt) ?_
    refine go (T' := T1001) (g' := (mkF m 72 #[.val (.ref a1), .val (.ref a2), .val (.ref a3), .val (.int p1), .val (.int (0 : Int32)), .val (.int (1 : Int32))] [(.ref a2), (.ref a1)])) (fun t kt => XS.aloadN X1001.here hx rfl (hb hby d1_71) rfl rfl kt) ?_
    obtain ⟨T1009, h1009, X1009, e1009, E1009, A1009, B1009, st1009⟩ := own_clone X1001 hx hZ hown (hw _ (List.mem_of_getElem? (i := 11) rfl)) (hw _ (List.mem_of_getElem? (i := 12) rfl)) (hw _ (List.mem_of_getElem? (i := 16) rfl)) (hw _ (List.mem_of_getElem? (i := 14) rfl)) (hw _ (List.mem_of_getElem? (i := 15) rfl)) (hw _ (List.mem_of_getElem? (i := 17) rfl)) e1001 V2 B2 (g := (mkF m 72 #[.val (.ref a1), .val (.ref a2), .val (.ref a3), .val (.int p1), .val (.int (0 : Int32)), .val (.int (1 : Int32))] [(.ref a2), (.ref a1)])) rfl (by rw [hml]; rfl) rfl (hb hby d1_72) (by decide) (W := 1) (cap := 4) (by show 2 * 0 + _ ≤ _; exact Nat.le_of_eq rfl) (by decide) c2 (by decide) (by decide)
    obtain ⟨br, g1009⟩ : ∃ z, z = h0.size := ⟨_, rfl⟩
    rw [← g1009] at A1009 B1009 st1009
    have ne_a1_br : a1 ≠ br := Nat.ne_of_lt (Nat.lt_of_lt_of_le E1.lt (Nat.le_of_eq g1009.symm))
    have ne_a2_br : a2 ≠ br := Nat.ne_of_lt (Nat.lt_of_lt_of_le V2.lt (Nat.le_of_eq g1009.symm))
    have ne_a3_br : a3 ≠ br := Nat.ne_of_lt (Nat.lt_of_lt_of_le V3.lt (Nat.le_of_eq g1009.symm))
    have g_br : n0 ≤ br := Nat.le_trans Z0 (Nat.le_of_eq g1009.symm)
    have o_br : h0.size ≤ br := Nat.le_trans (Keep.refl h0 [a1]).1 (Nat.le_of_eq g1009.symm)
    have z1009 : n0 ≤ h1009.size := Nat.le_trans Z0 E1009.1
    have fE_a1_1009 : Exa Z h1009 a1 "com/example/damarium/damarium/position/Move" := E1.ext E1009
    have fF_a1_route_1009 : Fld Z h1009 a1 "com/example/damarium/damarium/position/Move" "route" "[I" .null := F0.ext E1009
    have fF_a1_captured_1009 : Fld Z h1009 a1 "com/example/damarium/damarium/position/Move" "captured" "[I" .null := F1.ext E1009
    have fF_a1_crowns_1009 : Fld Z h1009 a1 "com/example/damarium/damarium/position/Move" "crowns" "Z" (.int (0 : Int32)) := F2.ext E1009
    have fA_a2_1009 : Aw Z h1009 a2 .int n2 f2 := V2.ext E1009
    have fA_a3_1009 : Aw Z h1009 a3 .int n3 f3 := V3.ext E1009
    have fE_a2_1009 : Exa Z h1009 a2 "[I" := B2.ext E1009
    have fE_a3_1009 : Exa Z h1009 a3 "[I" := B3.ext E1009
    have K1009 : Keep h0 h1009 [a1] := (Keep.refl h0 [a1]).ext E1009
    refine go (T' := T1009) (g' := (mkF m 75 #[.val (.ref a1), .val (.ref a2), .val (.ref a3), .val (.int p1), .val (.int (0 : Int32)), .val (.int (1 : Int32))] [(.ref br), (.ref a1)])) st1009 ?_
    obtain ⟨T1010, X1010, e1010, st1010⟩ := castY X1009 hx hZ hown (hw _ (List.mem_of_getElem? (i := 18) rfl)) e1009 (Ins.self B1009) (g := (mkF m 75 #[.val (.ref a1), .val (.ref a2), .val (.ref a3), .val (.int p1), .val (.int (0 : Int32)), .val (.int (1 : Int32))] [(.ref br), (.ref a1)])) rfl rfl (hb hby d1_75)
    refine go (T' := T1010) (g' := (mkF m 78 #[.val (.ref a1), .val (.ref a2), .val (.ref a3), .val (.int p1), .val (.int (0 : Int32)), .val (.int (1 : Int32))] [(.ref br), (.ref a1)])) st1010 ?_
    obtain ⟨T1011, h1011, X1011, e1011, W1011, st1011⟩ := putF X1010 hx hZ hown (host := "") (Or.inl (hw _ (List.mem_of_getElem? (i := 20) rfl))) Via.refl e1010 fF_a1_route_1009 fE_a1_1009 (Or.inr ⟨(hw _ (List.mem_of_getElem? (i := 21) rfl)), rfl, hnm⟩) (hw _ (List.mem_of_getElem? (i := 3) rfl)) (ty := (.array .int)) (by decide) rfl rfl (g := (mkF m 78 #[.val (.ref a1), .val (.ref a2), .val (.ref a3), .val (.int p1), .val (.int (0 : Int32)), .val (.int (1 : Int32))] [(.ref br), (.ref a1)])) rfl rfl (hb hby d1_78)
    have z1011 : n0 ≤ h1011.size := Nat.le_trans z1009 (Keep.of_wr W1011).1
    have fE_a1_1011 : Exa Z h1011 a1 "com/example/damarium/damarium/position/Move" := fE_a1_1009.wr W1011
    have fF_a1_captured_1011 : Fld Z h1011 a1 "com/example/damarium/damarium/position/Move" "captured" "[I" .null := fF_a1_captured_1009.other W1011 (Or.inr (slot_ne (Or.inr (hw _ (List.mem_of_getElem? (i := 23) rfl))) (Or.inr (hw _ (List.mem_of_getElem? (i := 21) rfl))) (by decide) (t := (.array .int)) (t' := (.array .int)) (by decide) (by decide)))
    have fF_a1_crowns_1011 : Fld Z h1011 a1 "com/example/damarium/damarium/position/Move" "crowns" "Z" (.int (0 : Int32)) := fF_a1_crowns_1009.other W1011 (Or.inr (slot_ne (Or.inr (hw _ (List.mem_of_getElem? (i := 25) rfl))) (Or.inr (hw _ (List.mem_of_getElem? (i := 21) rfl))) (by decide) (t := .boolean) (t' := (.array .int)) (by decide) (by decide)))
    have fA_a3_1011 : Aw Z h1011 a3 .int n3 f3 := fA_a3_1009.other W1011 ne3
    have fE_a3_1011 : Exa Z h1011 a3 "[I" := fE_a3_1009.wr W1011
    have fA_br_1011 : Aw Z h1011 br .int n2 f2 := A1009.other W1011 (Ne.symm ne_a1_br)
    have fE_br_1011 : Exa Z h1011 br "[I" := B1009.wr W1011
    have Fw1011 : Fld Z h1011 a1 "com/example/damarium/damarium/position/Move" "route" "[I" (.ref br) := fF_a1_route_1009.same W1011
    have K1011 : Keep h0 h1011 [a1] := K1009.wr W1011 (Or.inl (List.mem_of_getElem? (i := 0) rfl))
    have N1011 := Fr.snoc X1011 N0 g_a1
    refine go (T' := T1011) (g' := (mkF m 81 #[.val (.ref a1), .val (.ref a2), .val (.ref a3), .val (.int p1), .val (.int (0 : Int32)), .val (.int (1 : Int32))] [])) st1011 ?_
    refine go (T' := T1011) (g' := (mkF m 82 #[.val (.ref a1), .val (.ref a2), .val (.ref a3), .val (.int p1), .val (.int (0 : Int32)), .val (.int (1 : Int32))] [(.ref a1)])) (fun t kt => XS.aloadN X1011.here hx rfl (hb hby d1_81) rfl rfl kt) ?_
    refine go (T' := T1011) (g' := (mkF m 83 #[.val (.ref a1), .val (.ref a2), .val (.ref a3), .val (.int p1), .val (.int (0 : Int32)), .val (.int (1 : Int32))] [(.ref a3), (.ref a1)])) (fun t kt => XS.aloadN X1011.here hx rfl (hb hby d1_82) rfl rfl kt) ?_
    obtain ⟨T1012, h1012, X1012, e1012, E1012, A1012, B1012, st1012⟩ := own_clone X1011 hx hZ hown (hw _ (List.mem_of_getElem? (i := 11) rfl)) (hw _ (List.mem_of_getElem? (i := 12) rfl)) (hw _ (List.mem_of_getElem? (i := 16) rfl)) (hw _ (List.mem_of_getElem? (i := 14) rfl)) (hw _ (List.mem_of_getElem? (i := 15) rfl)) (hw _ (List.mem_of_getElem? (i := 17) rfl)) e1011 fA_a3_1011 fE_a3_1011 (g := (mkF m 83 #[.val (.ref a1), .val (.ref a2), .val (.ref a3), .val (.int p1), .val (.int (0 : Int32)), .val (.int (1 : Int32))] [(.ref a3), (.ref a1)])) rfl (by rw [hml]; rfl) rfl (hb hby d1_83) (by decide) (W := 1) (cap := 4) (by show 2 * 0 + _ ≤ _; exact Nat.le_of_eq rfl) (by decide) c3 (by decide) (by decide)
    obtain ⟨bc, g1012⟩ : ∃ z, z = h1011.size := ⟨_, rfl⟩
    rw [← g1012] at A1012 B1012 st1012
    have ne_a1_bc : a1 ≠ bc := Nat.ne_of_lt (Nat.lt_of_lt_of_le fE_a1_1011.lt (Nat.le_of_eq g1012.symm))
    have ne_a3_bc : a3 ≠ bc := Nat.ne_of_lt (Nat.lt_of_lt_of_le fA_a3_1011.lt (Nat.le_of_eq g1012.symm))
    have g_bc : n0 ≤ bc := Nat.le_trans z1011 (Nat.le_of_eq g1012.symm)
    have o_bc : h0.size ≤ bc := Nat.le_trans K1011.1 (Nat.le_of_eq g1012.symm)
    have z1012 : n0 ≤ h1012.size := Nat.le_trans z1011 E1012.1
    have fE_a1_1012 : Exa Z h1012 a1 "com/example/damarium/damarium/position/Move" := fE_a1_1011.ext E1012
    have fF_a1_route_1012 : Fld Z h1012 a1 "com/example/damarium/damarium/position/Move" "route" "[I" (.ref br) := Fw1011.ext E1012
    have fF_a1_captured_1012 : Fld Z h1012 a1 "com/example/damarium/damarium/position/Move" "captured" "[I" .null := fF_a1_captured_1011.ext E1012
    have fF_a1_crowns_1012 : Fld Z h1012 a1 "com/example/damarium/damarium/position/Move" "crowns" "Z" (.int (0 : Int32)) := fF_a1_crowns_1011.ext E1012
    have fA_a3_1012 : Aw Z h1012 a3 .int n3 f3 := fA_a3_1011.ext E1012
    have fE_a3_1012 : Exa Z h1012 a3 "[I" := fE_a3_1011.ext E1012
    have K1012 : Keep h0 h1012 [a1] := K1011.ext E1012
    refine go (T' := T1012) (g' := (mkF m 86 #[.val (.ref a1), .val (.ref a2), .val (.ref a3), .val (.int p1), .val (.int (0 : Int32)), .val (.int (1 : Int32))] [(.ref bc), (.ref a1)])) st1012 ?_
    obtain ⟨T1013, X1013, e1013, st1013⟩ := castY X1012 hx hZ hown (hw _ (List.mem_of_getElem? (i := 18) rfl)) e1012 (Ins.self B1012) (g := (mkF m 86 #[.val (.ref a1), .val (.ref a2), .val (.ref a3), .val (.int p1), .val (.int (0 : Int32)), .val (.int (1 : Int32))] [(.ref bc), (.ref a1)])) rfl rfl (hb hby d1_86)
    refine go (T' := T1013) (g' := (mkF m 89 #[.val (.ref a1), .val (.ref a2), .val (.ref a3), .val (.int p1), .val (.int (0 : Int32)), .val (.int (1 : Int32))] [(.ref bc), (.ref a1)])) st1013 ?_
    obtain ⟨T1014, h1014, X1014, e1014, W1014, st1014⟩ := putF X1013 hx hZ hown (host := "") (Or.inl (hw _ (List.mem_of_getElem? (i := 22) rfl))) Via.refl e1013 fF_a1_captured_1012 fE_a1_1012 (Or.inr ⟨(hw _ (List.mem_of_getElem? (i := 23) rfl)), rfl, hnm⟩) (hw _ (List.mem_of_getElem? (i := 3) rfl)) (ty := (.array .int)) (by decide) rfl rfl (g := (mkF m 89 #[.val (.ref a1), .val (.ref a2), .val (.ref a3), .val (.int p1), .val (.int (0 : Int32)), .val (.int (1 : Int32))] [(.ref bc), (.ref a1)])) rfl rfl (hb hby d1_89)
    have z1014 : n0 ≤ h1014.size := Nat.le_trans z1012 (Keep.of_wr W1014).1
    have fE_a1_1014 : Exa Z h1014 a1 "com/example/damarium/damarium/position/Move" := fE_a1_1012.wr W1014
    have fF_a1_route_1014 : Fld Z h1014 a1 "com/example/damarium/damarium/position/Move" "route" "[I" (.ref br) := fF_a1_route_1012.other W1014 (Or.inr (slot_ne (Or.inr (hw _ (List.mem_of_getElem? (i := 21) rfl))) (Or.inr (hw _ (List.mem_of_getElem? (i := 23) rfl))) (by decide) (t := (.array .int)) (t' := (.array .int)) (by decide) (by decide)))
    have fF_a1_crowns_1014 : Fld Z h1014 a1 "com/example/damarium/damarium/position/Move" "crowns" "Z" (.int (0 : Int32)) := fF_a1_crowns_1012.other W1014 (Or.inr (slot_ne (Or.inr (hw _ (List.mem_of_getElem? (i := 25) rfl))) (Or.inr (hw _ (List.mem_of_getElem? (i := 23) rfl))) (by decide) (t := .boolean) (t' := (.array .int)) (by decide) (by decide)))
    have fA_bc_1014 : Aw Z h1014 bc .int n3 f3 := A1012.other W1014 (Ne.symm ne_a1_bc)
    have fE_bc_1014 : Exa Z h1014 bc "[I" := B1012.wr W1014
    have Fw1014 : Fld Z h1014 a1 "com/example/damarium/damarium/position/Move" "captured" "[I" (.ref bc) := fF_a1_captured_1012.same W1014
    have K1014 : Keep h0 h1014 [a1] := K1012.wr W1014 (Or.inl (List.mem_of_getElem? (i := 0) rfl))
    have N1014 := Fr.snoc X1014 N1011 g_a1
    refine go (T' := T1014) (g' := (mkF m 92 #[.val (.ref a1), .val (.ref a2), .val (.ref a3), .val (.int p1), .val (.int (0 : Int32)), .val (.int (1 : Int32))] [])) st1014 ?_
    refine go (T' := T1014) (g' := (mkF m 93 #[.val (.ref a1), .val (.ref a2), .val (.ref a3), .val (.int p1), .val (.int (0 : Int32)), .val (.int (1 : Int32))] [(.ref a1)])) (fun t kt => XS.aloadN X1014.here hx rfl (hb hby d1_92) rfl rfl kt) ?_
    refine go (T' := T1014) (g' := (mkF m 94 #[.val (.ref a1), .val (.ref a2), .val (.ref a3), .val (.int p1), .val (.int (0 : Int32)), .val (.int (1 : Int32))] [(.int p1), (.ref a1)])) (fun t kt => XS.iloadN X1014.here hx rfl (hb hby d1_93) rfl kt) ?_
    obtain ⟨T1015, h1015, X1015, e1015, W1015, st1015⟩ := putFN X1014 hx hZ hown (hw _ (List.mem_of_getElem? (i := 24) rfl)) Via.refl e1014 fF_a1_crowns_1014 fE_a1_1014 (Or.inr ⟨(hw _ (List.mem_of_getElem? (i := 25) rfl)), rfl, hnm⟩) (hw _ (List.mem_of_getElem? (i := 3) rfl)) (ty := .boolean) (v' := (.int (nar .boolean p1))) (by decide) rfl (fits_nar_bool _) (g := (mkF m 94 #[.val (.ref a1), .val (.ref a2), .val (.ref a3), .val (.int p1), .val (.int (0 : Int32)), .val (.int (1 : Int32))] [(.int p1), (.ref a1)])) rfl rfl (hb hby d1_94)
    have z1015 : n0 ≤ h1015.size := Nat.le_trans z1014 (Keep.of_wr W1015).1
    have fE_a1_1015 : Exa Z h1015 a1 "com/example/damarium/damarium/position/Move" := fE_a1_1014.wr W1015
    have fF_a1_route_1015 : Fld Z h1015 a1 "com/example/damarium/damarium/position/Move" "route" "[I" (.ref br) := fF_a1_route_1014.other W1015 (Or.inr (slot_ne (Or.inr (hw _ (List.mem_of_getElem? (i := 21) rfl))) (Or.inr (hw _ (List.mem_of_getElem? (i := 25) rfl))) (by decide) (t := (.array .int)) (t' := .boolean) (by decide) (by decide)))
    have fF_a1_captured_1015 : Fld Z h1015 a1 "com/example/damarium/damarium/position/Move" "captured" "[I" (.ref bc) := Fw1014.other W1015 (Or.inr (slot_ne (Or.inr (hw _ (List.mem_of_getElem? (i := 23) rfl))) (Or.inr (hw _ (List.mem_of_getElem? (i := 25) rfl))) (by decide) (t := (.array .int)) (t' := .boolean) (by decide) (by decide)))
    have fA_bc_1015 : Aw Z h1015 bc .int n3 f3 := fA_bc_1014.other W1015 (Ne.symm ne_a1_bc)
    have fE_bc_1015 : Exa Z h1015 bc "[I" := fE_bc_1014.wr W1015
    have Fw1015 : Fld Z h1015 a1 "com/example/damarium/damarium/position/Move" "crowns" "Z" (.int (nar .boolean p1)) := fF_a1_crowns_1014.same W1015
    have K1015 : Keep h0 h1015 [a1] := K1014.wr W1015 (Or.inl (List.mem_of_getElem? (i := 0) rfl))
    have N1015 := Fr.snoc X1015 N1014 g_a1
    refine go (T' := T1015) (g' := (mkF m 97 #[.val (.ref a1), .val (.ref a2), .val (.ref a3), .val (.int p1), .val (.int (0 : Int32)), .val (.int (1 : Int32))] [])) st1015 ?_
    refine goRetV X1015 hx hlk Bd.returns (hb hby d1_97) ?_ (by decide) (by decide)
    rw [e1015]
    exact ⟨rfl, N1015, K1015, bc, f3, fF_a1_captured_1015, fA_bc_1015⟩
theorem d3_0 : decode prog_32_method_8_code 0 = .ok (.aload_n 0, 1) := by decide +kernel
theorem d3_1 : decode prog_32_method_8_code 1 = .ok (.getfield 27, 3) := by decide +kernel
theorem d3_4 : decode prog_32_method_8_code 4 = .ok (.arraylength, 1) := by decide +kernel
theorem d3_5 : decode prog_32_method_8_code 5 = .ok (.ifCond .le 7, 3) := by decide +kernel
theorem d3_8 : decode prog_32_method_8_code 8 = .ok (.iconst 1, 1) := by decide +kernel
theorem d3_9 : decode prog_32_method_8_code 9 = .ok (.goto 4, 3) := by decide +kernel
theorem d3_12 : decode prog_32_method_8_code 12 = .ok (.iconst 0, 1) := by decide +kernel
theorem d3_13 : decode prog_32_method_8_code 13 = .ok (.ireturn, 1) := by decide +kernel
theorem ef_3 (m : MethodId) (a1 : Addr) : entryFrame m #[(.ref a1)] 1 = mkF m 0 #[.val (.ref a1)] [] := by first | (simp [entryFrame, mkF, argsToLocals, Value.category]; done) | rfl
def Q3 (Z : State) (a1 : Addr) (a3 : Addr) (n3 : Int32) (f3 : Nat → Value) (h0 : Heap) (n0 : Nat) (v : Option Value) (h : Heap) (L : List Loc) : Prop := v = some (.int (own_cap n3)) ∧ Fr n0 L ∧ h = h0
set_option maxRecDepth 65536 in
set_option maxHeartbeats 40000000 in
theorem rm3 (l : Launch) (Z : State) (a0 : Array Value) (hw : ∀ d ∈ tables_1, d.before a0 Z = true) (ws : List Jvm.Cond) (a1 : Addr) (a3 : Addr) (n3 : Int32) (f3 : Nat → Value) (h0 : Heap) (n0 : Nat) (Z0 : n0 ≤ h0.size) (F1 : Fld Z h0 a1 "com/example/damarium/damarium/position/Move" "captured" "[I" (.ref a3)) (V3 : Aw Z h0 a3 .int n3 f3) :
    MetFree l (⟨"com/example/damarium/damarium/position/Move", "isCapture", "()Z"⟩ : MethodName) (head1 (Jvm.Cond.code (⟨"com/example/damarium/damarium/position/Move", "isCapture", "()Z"⟩ : MethodName) prog_32_method_8_code 1 (some .boolean) :: ws) ({ frames := 0, cells := 0, slots := 0, locals := 0 } : Room)) (fun a U => a = #[(.ref a1)] ∧ Z.Warmed39 U.vm ∧ U.heap = h0) (fun _ _ _ _ _ => True) (fun _ U o U' => ∃ v L, o = .returned v ∧ Q3 Z a1 a3 n3 f3 h0 n0 v U'.heap L ∧ FrameEnd U o U' L ({ frames := 0, cells := 0, slots := 0, locals := 0 } : Room).cells ({ frames := 0, cells := 0, slots := 0, locals := 0 } : Room).slots) := by
  refine MetFree.of_bodySF (plainFor_of_name pn_1) hisR ?_
  intro p e s m args below meth c s₁ Bd hml0 hP hK
  obtain ⟨rfl, hZ, hh⟩ := hP
  have hx := Bd.exec
  have hby := Bd.bytes
  have hlk := Bd.notSynchronized
  have hml : c.maxLocals = 1 := hml0
  have hown : s.vm.findClass "com/example/damarium/damarium/position/Move" = some m.cls := findClass_of_methodNamed Bd.named
  have hnm := (name_of_methodNamed Bd.named Bd.method).1
  have X0 : Stand p l e ({ frames := 0, cells := 0, slots := 0, locals := 0 } : Room) s m #[(.ref a1)] below meth c s₁ [] 0 0 := Stand.of_body Bd
  have e0 : s₁.heap = h0 := by rw [← hh, Bd.state]; rfl
  have N0 := Fr.nil n0
  show Goes p e below s 0 0 (Q3 Z a1 a3 n3 f3 h0 n0) s₁ (entryFrame m #[(.ref a1)] 1)
  refine goEq (ef_3 m a1) ?_
  refine go (T' := s₁) (g' := (mkF m 1 #[.val (.ref a1)] [(.ref a1)])) (fun t kt => XS.aloadN X0.here hx rfl (hb hby d3_0) rfl rfl kt) ?_
  obtain ⟨T1016, X1016, e1016, st1016⟩ := getF X0 hx hZ hown (host := "") (Or.inl (hw _ (List.mem_of_getElem? (i := 22) rfl))) Via.refl e0 F1 (g := (mkF m 1 #[.val (.ref a1)] [(.ref a1)])) rfl rfl (hb hby d3_1)
  refine go (T' := T1016) (g' := (mkF m 4 #[.val (.ref a1)] [(.ref a3)])) st1016 ?_
  refine go (T' := T1016) (g' := (mkF m 5 #[.val (.ref a1)] [(.int n3)])) (fun t kt => own_len X1016 hx hZ e1016 V3 (g := (mkF m 4 #[.val (.ref a1)] [(.ref a3)])) rfl rfl (hb hby d3_4) _ kt) ?_
  by_cases hc : (0 : Int32) < n3
  · refine go (T' := T1016) (g' := (mkF m 8 #[.val (.ref a1)] [])) (fun t kt => XS.ifNo X1016.here hx rfl (hb hby d3_5) rfl ((if0 _ _).trans (tlt hc).2.2.2) kt) ?_
    refine go (T' := T1016) (g' := (mkF m 9 #[.val (.ref a1)] [(.int (1 : Int32))])) (fun t kt => XS.iconst X1016.here hx rfl (hb hby d3_8) kt) ?_
    refine go (T' := T1016) (g' := (mkF m 13 #[.val (.ref a1)] [(.int (1 : Int32))])) (fun t kt => XS.goto X1016.here hx rfl (pc0 := 9) (pc' := 13) rfl (hb hby d3_9) (by decide) (by decide) kt) ?_
    refine goRetN X1016 hx hlk (t := .boolean) Bd.returns (by simp) (hb hby d3_13) ?_ (by decide) (by decide)
    rw [e1016]
    exact ⟨by rw [own_cap, if_pos hc]; rfl, N0, rfl⟩
  · refine go (T' := T1016) (g' := (mkF m 12 #[.val (.ref a1)] [])) (fun t kt => XS.ifYes X1016.here hx rfl (pc0 := 5) (pc' := 12) rfl (hb hby d3_5) rfl ((if0 _ _).trans (flt hc).2.2.2) (by decide) (by decide) kt) ?_
    refine go (T' := T1016) (g' := (mkF m 13 #[.val (.ref a1)] [(.int (0 : Int32))])) (fun t kt => XS.iconst X1016.here hx rfl (hb hby d3_12) kt) ?_
    refine goRetN X1016 hx hlk (t := .boolean) Bd.returns (by simp) (hb hby d3_13) ?_ (by decide) (by decide)
    rw [e1016]
    exact ⟨by rw [own_cap, if_neg hc]; rfl, N0, rfl⟩
theorem pd_0 : parseMethodDescriptor "([I[IZ)V" = some ⟨[(.array .int), (.array .int), .boolean], none⟩ := by decide +kernel
theorem pd_1 : parseMethodDescriptor "()Z" = some ⟨[], some .boolean⟩ := by decide +kernel
theorem pn_0 : plainName "com/example/damarium/damarium/position/MoveIsCapturePinLaw" = true := by first | (simp [plainName, overriddenIn]; done) | decide +kernel
theorem ef_0 (m : MethodId) (p1 : Int32) (p2 : Int32) (p3 : Int32) (p4 : Int32) (p5 : Int32) (p6 : Int32) : entryFrame m #[(.int p1), (.int p2), (.int p3), (.int p4), (.int p5), (.int p6)] maxLocals = mkF m 0 #[.val (.int p1), .val (.int p2), .val (.int p3), .val (.int p4), .val (.int p5), .val (.int p6), .unset, .unset, .unset, .unset, .unset] [] := by first | (simp [entryFrame, mkF, argsToLocals, Value.category, maxLocals]; done) | rfl
def Q0 (Z : State) (p1 : Int32) (p2 : Int32) (p3 : Int32) (p4 : Int32) (p5 : Int32) (p6 : Int32) (h0 : Heap) (n0 : Nat) (v : Option Value) (h : Heap) (L : List Loc) : Prop := v = some (.int 1) ∧ Fr n0 L
set_option maxRecDepth 65536 in
set_option maxHeartbeats 40000000 in
theorem rm0 (l : Launch) (Z : State) (a0 : Array Value) (hw : ∀ d ∈ tables_1, d.before a0 Z = true) (ws : List Jvm.Cond) (p1 : Int32) (p2 : Int32) (p3 : Int32) (p4 : Int32) (p5 : Int32) (p6 : Int32) (h0 : Heap) (n0 : Nat) (Z0 : n0 ≤ h0.size)  :
    MetFree l x (head1 (Jvm.Cond.code x code maxLocals ret :: ws) room_1) (fun a U => a = #[(.int p1), (.int p2), (.int p3), (.int p4), (.int p5), (.int p6)] ∧ Z.Warmed39 U.vm ∧ U.heap = h0) (fun _ _ _ _ _ => True) (fun _ U o U' => ∃ v L, o = .returned v ∧ Q0 Z p1 p2 p3 p4 p5 p6 h0 n0 v U'.heap L ∧ FrameEnd U o U' L 5 18) := by
  refine MetFree.of_bodySF (plainFor_of_name pn_0) hisR ?_
  intro p e s m args below meth c s₁ Bd hml0 hP hK
  obtain ⟨rfl, hZ, hh⟩ := hP
  have hx := Bd.exec
  have hby := Bd.bytes
  have hlk := Bd.notSynchronized
  have hml : c.maxLocals = 11 := hml0
  have hown : s.vm.findClass "com/example/damarium/damarium/position/MoveIsCapturePinLaw" = some m.cls := findClass_of_methodNamed Bd.named
  have hnm := (name_of_methodNamed Bd.named Bd.method).1
  have X0 : Stand p l e room_1 s m #[(.int p1), (.int p2), (.int p3), (.int p4), (.int p5), (.int p6)] below meth c s₁ [] 0 0 := Stand.of_body Bd
  have e0 : s₁.heap = h0 := by rw [← hh, Bd.state]; rfl
  have N0 := Fr.nil n0
  show Goes p e below s 5 18 (Q0 Z p1 p2 p3 p4 p5 p6 h0 n0) s₁ (entryFrame m #[(.int p1), (.int p2), (.int p3), (.int p4), (.int p5), (.int p6)] maxLocals)
  refine goEq (ef_0 m p1 p2 p3 p4 p5 p6) ?_
  refine go (T' := s₁) (g' := (mkF m 1 #[.val (.int p1), .val (.int p2), .val (.int p3), .val (.int p4), .val (.int p5), .val (.int p6), .unset, .unset, .unset, .unset, .unset] [(.int p1)])) (fun t kt => XS.iloadN X0.here hx rfl (hb hby at_0) rfl kt) ?_
  refine go (T' := s₁) (g' := (mkF m 3 #[.val (.int p1), .val (.int p2), .val (.int p3), .val (.int p4), .val (.int p5), .val (.int p6), .unset, .unset, .unset, .unset, .unset] [(.int (2147483647 : Int32)), (.int p1)])) (fun t kt => X0.ldcInt hx hown (mvT hZ (hw _ (List.mem_of_getElem? (i := 0) rfl))) (g := (mkF m 1 #[.val (.int p1), .val (.int p2), .val (.int p3), .val (.int p4), .val (.int p5), .val (.int p6), .unset, .unset, .unset, .unset, .unset] [(.int p1)])) rfl (hb hby at_1) _ kt) ?_
  refine go (T' := s₁) (g' := (mkF m 4 #[.val (.int p1), .val (.int p2), .val (.int p3), .val (.int p4), .val (.int p5), .val (.int p6), .unset, .unset, .unset, .unset, .unset] [(.int (p1 &&& (2147483647 : Int32)))])) (fun t kt => XS.iand X0.here hx rfl (hb hby at_3) rfl kt) ?_
  refine go (T' := s₁) (g' := (mkF m 5 #[.val (.int p1), .val (.int p2), .val (.int p3), .val (.int p4), .val (.int p5), .val (.int p6), .unset, .unset, .unset, .unset, .unset] [(.int (4 : Int32)), (.int (p1 &&& (2147483647 : Int32)))])) (fun t kt => XS.iconst X0.here hx rfl (hb hby at_4) kt) ?_
  refine go (T' := s₁) (g' := (mkF m 6 #[.val (.int p1), .val (.int p2), .val (.int p3), .val (.int p4), .val (.int p5), .val (.int p6), .unset, .unset, .unset, .unset, .unset] [(.int ((p1 &&& (2147483647 : Int32)) % (4 : Int32)))])) (fun t kt => iremM X0 hx rfl (hb hby at_5) rfl (by decide) kt) ?_
  obtain ⟨k, e_k⟩ : ∃ z, z = ((p1 &&& (2147483647 : Int32)) % (4 : Int32)) := ⟨_, rfl⟩
  refine goEq (g' := (mkF m 6 #[.val (.int p1), .val (.int p2), .val (.int p3), .val (.int p4), .val (.int p5), .val (.int p6), .unset, .unset, .unset, .unset, .unset] [(.int k)])) (by rw [e_k]) ?_
  refine go (T' := s₁) (g' := (mkF m 8 #[.val (.int p1), .val (.int p2), .val (.int p3), .val (.int p4), .val (.int p5), .val (.int p6), .val (.int k), .unset, .unset, .unset, .unset] [])) (fun t kt => XS.istore X0.here hx rfl (hb hby at_6) rfl (l' := #[.val (.int p1), .val (.int p2), .val (.int p3), .val (.int p4), .val (.int p5), .val (.int p6), .val (.int k), .unset, .unset, .unset, .unset]) rfl kt) ?_
  refine goVia (T₂ := s₁) (g₂ := (mkF m 20 #[.val (.int p1), .val (.int p2), .val (.int p3), .val (.int p4), .val (.int p5), .val (.int p6), .val (.int k), .unset, .unset, .unset, .unset] [(.int (if p6 &&& 1 = 0 then (0 : Int32) else 1))])) (fun kV => ?_) ?_
  · refine go (T' := s₁) (g' := (mkF m 10 #[.val (.int p1), .val (.int p2), .val (.int p3), .val (.int p4), .val (.int p5), .val (.int p6), .val (.int k), .unset, .unset, .unset, .unset] [(.int p6)])) (fun t kt => XS.iload X0.here hx rfl (hb hby at_8) rfl kt) ?_
    refine go (T' := s₁) (g' := (mkF m 11 #[.val (.int p1), .val (.int p2), .val (.int p3), .val (.int p4), .val (.int p5), .val (.int p6), .val (.int k), .unset, .unset, .unset, .unset] [(.int (1 : Int32)), (.int p6)])) (fun t kt => XS.iconst X0.here hx rfl (hb hby at_10) kt) ?_
    refine go (T' := s₁) (g' := (mkF m 12 #[.val (.int p1), .val (.int p2), .val (.int p3), .val (.int p4), .val (.int p5), .val (.int p6), .val (.int k), .unset, .unset, .unset, .unset] [(.int (p6 &&& (1 : Int32)))])) (fun t kt => XS.iand X0.here hx rfl (hb hby at_11) rfl kt) ?_
    by_cases hf : (p6 &&& (1 : Int32)) = (0 : Int32)
    · refine go (T' := s₁) (g' := (mkF m 19 #[.val (.int p1), .val (.int p2), .val (.int p3), .val (.int p4), .val (.int p5), .val (.int p6), .val (.int k), .unset, .unset, .unset, .unset] [])) (fun t kt => XS.ifYes X0.here hx rfl (pc0 := 12) (pc' := 19) rfl (hb hby at_12) rfl ((if0 _ _).trans (teq hf).1) (by decide) (by decide) kt) ?_
      refine go (T' := s₁) (g' := (mkF m 20 #[.val (.int p1), .val (.int p2), .val (.int p3), .val (.int p4), .val (.int p5), .val (.int p6), .val (.int k), .unset, .unset, .unset, .unset] [(.int (0 : Int32))])) (fun t kt => XS.iconst X0.here hx rfl (hb hby at_19) kt) ?_
      exact goEq (by rw [if_pos hf]) kV
    · refine go (T' := s₁) (g' := (mkF m 15 #[.val (.int p1), .val (.int p2), .val (.int p3), .val (.int p4), .val (.int p5), .val (.int p6), .val (.int k), .unset, .unset, .unset, .unset] [])) (fun t kt => XS.ifNo X0.here hx rfl (hb hby at_12) rfl ((if0 _ _).trans (feq hf).1) kt) ?_
      refine go (T' := s₁) (g' := (mkF m 16 #[.val (.int p1), .val (.int p2), .val (.int p3), .val (.int p4), .val (.int p5), .val (.int p6), .val (.int k), .unset, .unset, .unset, .unset] [(.int (1 : Int32))])) (fun t kt => XS.iconst X0.here hx rfl (hb hby at_15) kt) ?_
      refine go (T' := s₁) (g' := (mkF m 20 #[.val (.int p1), .val (.int p2), .val (.int p3), .val (.int p4), .val (.int p5), .val (.int p6), .val (.int k), .unset, .unset, .unset, .unset] [(.int (1 : Int32))])) (fun t kt => XS.goto X0.here hx rfl (pc0 := 16) (pc' := 20) rfl (hb hby at_16) (by decide) (by decide) kt) ?_
      exact goEq (by rw [if_neg hf]) kV
  · obtain ⟨cr, e_cr⟩ : ∃ z, z = (if p6 &&& 1 = 0 then (0 : Int32) else 1) := ⟨_, rfl⟩
    refine goEq (g' := (mkF m 20 #[.val (.int p1), .val (.int p2), .val (.int p3), .val (.int p4), .val (.int p5), .val (.int p6), .val (.int k), .unset, .unset, .unset, .unset] [(.int cr)])) (by rw [e_cr]) ?_
    refine go (T' := s₁) (g' := (mkF m 22 #[.val (.int p1), .val (.int p2), .val (.int p3), .val (.int p4), .val (.int p5), .val (.int p6), .val (.int k), .val (.int cr), .unset, .unset, .unset] [])) (fun t kt => XS.istore X0.here hx rfl (hb hby at_20) rfl (l' := #[.val (.int p1), .val (.int p2), .val (.int p3), .val (.int p4), .val (.int p5), .val (.int p6), .val (.int k), .val (.int cr), .unset, .unset, .unset]) rfl kt) ?_
    refine go (T' := s₁) (g' := (mkF m 24 #[.val (.int p1), .val (.int p2), .val (.int p3), .val (.int p4), .val (.int p5), .val (.int p6), .val (.int k), .val (.int cr), .unset, .unset, .unset] [(.int k)])) (fun t kt => XS.iload X0.here hx rfl (hb hby at_22) rfl kt) ?_
    by_cases hk0 : k = (0 : Int32)
    · refine go (T' := s₁) (g' := (mkF m 27 #[.val (.int p1), .val (.int p2), .val (.int p3), .val (.int p4), .val (.int p5), .val (.int p6), .val (.int k), .val (.int cr), .unset, .unset, .unset] [])) (fun t kt => XS.ifNo X0.here hx rfl (hb hby at_24) rfl ((if0 _ _).trans (teq hk0).2) kt) ?_
      refine go (T' := s₁) (g' := (mkF m 28 #[.val (.int p1), .val (.int p2), .val (.int p3), .val (.int p4), .val (.int p5), .val (.int p6), .val (.int k), .val (.int cr), .unset, .unset, .unset] [(.int (2 : Int32))])) (fun t kt => XS.iconst X0.here hx rfl (hb hby at_27) kt) ?_
      obtain ⟨T1017, h1017, kc1017, X1017, e1017, E1017, A1017, B1017, st1017⟩ := newPE X0 hx hZ (hw _ (List.mem_of_getElem? (i := 1) rfl)) e0 (g := (mkF m 28 #[.val (.int p1), .val (.int p2), .val (.int p3), .val (.int p4), .val (.int p5), .val (.int p6), .val (.int k), .val (.int cr), .unset, .unset, .unset] [(.int (2 : Int32))])) rfl (hb hby at_28) rfl (by decide) (cap := 2) (by decide) (by decide) (by decide) (by decide) (ad := "[I") (by decide +kernel)
      obtain ⟨br, g1017⟩ : ∃ z, z = h0.size := ⟨_, rfl⟩
      rw [← g1017] at A1017 B1017 st1017
      have g_br : n0 ≤ br := Nat.le_trans Z0 (Nat.le_of_eq g1017.symm)
      have z1017 : n0 ≤ h1017.size := Nat.le_trans Z0 E1017.1
      have V_br : Aw Z h1017 br .int (2 : Int32) (fun _ => defaultValue .int) := Aw.new A1017 (by decide)
      refine go (T' := T1017) (g' := (mkF m 30 #[.val (.int p1), .val (.int p2), .val (.int p3), .val (.int p4), .val (.int p5), .val (.int p6), .val (.int k), .val (.int cr), .unset, .unset, .unset] [(.ref br)])) st1017 ?_
      refine go (T' := T1017) (g' := (mkF m 31 #[.val (.int p1), .val (.int p2), .val (.int p3), .val (.int p4), .val (.int p5), .val (.int p6), .val (.int k), .val (.int cr), .unset, .unset, .unset] [(.ref br), (.ref br)])) (fun t kt => XS.dup X1017.here hx rfl (hb hby at_30) rfl rfl kt) ?_
      refine go (T' := T1017) (g' := (mkF m 32 #[.val (.int p1), .val (.int p2), .val (.int p3), .val (.int p4), .val (.int p5), .val (.int p6), .val (.int k), .val (.int cr), .unset, .unset, .unset] [(.int (0 : Int32)), (.ref br), (.ref br)])) (fun t kt => XS.iconst X1017.here hx rfl (hb hby at_31) kt) ?_
      refine go (T' := T1017) (g' := (mkF m 33 #[.val (.int p1), .val (.int p2), .val (.int p3), .val (.int p4), .val (.int p5), .val (.int p6), .val (.int k), .val (.int cr), .unset, .unset, .unset] [(.int p2), (.int (0 : Int32)), (.ref br), (.ref br)])) (fun t kt => XS.iloadN X1017.here hx rfl (hb hby at_32) rfl kt) ?_
      obtain ⟨T1018, h1018, X1018, e1018, W1018, V1018, st1018⟩ := own_stI X1017 hx hZ e1017 V_br (j := (0 : Int32)) ⟨by decide, by decide⟩ (g := (mkF m 33 #[.val (.int p1), .val (.int p2), .val (.int p3), .val (.int p4), .val (.int p5), .val (.int p6), .val (.int k), .val (.int cr), .unset, .unset, .unset] [(.int p2), (.int (0 : Int32)), (.ref br), (.ref br)])) rfl rfl (hb hby at_33)
      have z1018 : n0 ≤ h1018.size := Nat.le_trans z1017 (Keep.of_wr W1018).1
      have fE_br_1018 : Exa Z h1018 br "[I" := B1017.wr W1018
      have N1018 := Fr.snoc X1018 N0 g_br
      refine go (T' := T1018) (g' := (mkF m 34 #[.val (.int p1), .val (.int p2), .val (.int p3), .val (.int p4), .val (.int p5), .val (.int p6), .val (.int k), .val (.int cr), .unset, .unset, .unset] [(.ref br)])) st1018 ?_
      refine go (T' := T1018) (g' := (mkF m 35 #[.val (.int p1), .val (.int p2), .val (.int p3), .val (.int p4), .val (.int p5), .val (.int p6), .val (.int k), .val (.int cr), .unset, .unset, .unset] [(.ref br), (.ref br)])) (fun t kt => XS.dup X1018.here hx rfl (hb hby at_34) rfl rfl kt) ?_
      refine go (T' := T1018) (g' := (mkF m 36 #[.val (.int p1), .val (.int p2), .val (.int p3), .val (.int p4), .val (.int p5), .val (.int p6), .val (.int k), .val (.int cr), .unset, .unset, .unset] [(.int (1 : Int32)), (.ref br), (.ref br)])) (fun t kt => XS.iconst X1018.here hx rfl (hb hby at_35) kt) ?_
      refine go (T' := T1018) (g' := (mkF m 37 #[.val (.int p1), .val (.int p2), .val (.int p3), .val (.int p4), .val (.int p5), .val (.int p6), .val (.int k), .val (.int cr), .unset, .unset, .unset] [(.int p3), (.int (1 : Int32)), (.ref br), (.ref br)])) (fun t kt => XS.iloadN X1018.here hx rfl (hb hby at_36) rfl kt) ?_
      obtain ⟨T1019, h1019, X1019, e1019, W1019, V1019, st1019⟩ := own_stI X1018 hx hZ e1018 V1018 (j := (1 : Int32)) ⟨by decide, by decide⟩ (g := (mkF m 37 #[.val (.int p1), .val (.int p2), .val (.int p3), .val (.int p4), .val (.int p5), .val (.int p6), .val (.int k), .val (.int cr), .unset, .unset, .unset] [(.int p3), (.int (1 : Int32)), (.ref br), (.ref br)])) rfl rfl (hb hby at_37)
      have z1019 : n0 ≤ h1019.size := Nat.le_trans z1018 (Keep.of_wr W1019).1
      have fE_br_1019 : Exa Z h1019 br "[I" := fE_br_1018.wr W1019
      have N1019 := Fr.snoc X1019 N1018 g_br
      refine go (T' := T1019) (g' := (mkF m 38 #[.val (.int p1), .val (.int p2), .val (.int p3), .val (.int p4), .val (.int p5), .val (.int p6), .val (.int k), .val (.int cr), .unset, .unset, .unset] [(.ref br)])) st1019 ?_
      refine go (T' := T1019) (g' := (mkF m 40 #[.val (.int p1), .val (.int p2), .val (.int p3), .val (.int p4), .val (.int p5), .val (.int p6), .val (.int k), .val (.int cr), .val (.ref br), .unset, .unset] [])) (fun t kt => XS.astore X1019.here hx rfl (hb hby at_38) rfl rfl (l' := #[.val (.int p1), .val (.int p2), .val (.int p3), .val (.int p4), .val (.int p5), .val (.int p6), .val (.int k), .val (.int cr), .val (.ref br), .unset, .unset]) rfl kt) ?_
      refine go (T' := T1019) (g' := (mkF m 41 #[.val (.int p1), .val (.int p2), .val (.int p3), .val (.int p4), .val (.int p5), .val (.int p6), .val (.int k), .val (.int cr), .val (.ref br), .unset, .unset] [(.int (0 : Int32))])) (fun t kt => XS.iconst X1019.here hx rfl (hb hby at_40) kt) ?_
      obtain ⟨T1020, h1020, kc1020, X1020, e1020, E1020, A1020, B1020, st1020⟩ := newPE X1019 hx hZ (hw _ (List.mem_of_getElem? (i := 1) rfl)) e1019 (g := (mkF m 41 #[.val (.int p1), .val (.int p2), .val (.int p3), .val (.int p4), .val (.int p5), .val (.int p6), .val (.int k), .val (.int cr), .val (.ref br), .unset, .unset] [(.int (0 : Int32))])) rfl (hb hby at_41) rfl (by decide) (cap := 0) (by decide) (by decide) (by decide) (by decide) (ad := "[I") (by decide +kernel)
      obtain ⟨bc, g1020⟩ : ∃ z, z = h1019.size := ⟨_, rfl⟩
      rw [← g1020] at A1020 B1020 st1020
      have ne_br_bc : br ≠ bc := Nat.ne_of_lt (Nat.lt_of_lt_of_le V1019.lt (Nat.le_of_eq g1020.symm))
      have g_bc : n0 ≤ bc := Nat.le_trans z1019 (Nat.le_of_eq g1020.symm)
      have z1020 : n0 ≤ h1020.size := Nat.le_trans z1019 E1020.1
      have fA_br_1020 : Aw Z h1020 br .int (2 : Int32) (upd (upd (fun _ => defaultValue .int) ((0 : Int32)).toNatClampNeg (.int p2)) ((1 : Int32)).toNatClampNeg (.int p3)) := V1019.ext E1020
      have fE_br_1020 : Exa Z h1020 br "[I" := fE_br_1019.ext E1020
      have V_bc : Aw Z h1020 bc .int (0 : Int32) (fun _ => defaultValue .int) := Aw.new A1020 (by decide)
      refine go (T' := T1020) (g' := (mkF m 43 #[.val (.int p1), .val (.int p2), .val (.int p3), .val (.int p4), .val (.int p5), .val (.int p6), .val (.int k), .val (.int cr), .val (.ref br), .unset, .unset] [(.ref bc)])) st1020 ?_
      refine go (T' := T1020) (g' := (mkF m 45 #[.val (.int p1), .val (.int p2), .val (.int p3), .val (.int p4), .val (.int p5), .val (.int p6), .val (.int k), .val (.int cr), .val (.ref br), .val (.ref bc), .unset] [])) (fun t kt => XS.astore X1020.here hx rfl (hb hby at_43) rfl rfl (l' := #[.val (.int p1), .val (.int p2), .val (.int p3), .val (.int p4), .val (.int p5), .val (.int p6), .val (.int k), .val (.int cr), .val (.ref br), .val (.ref bc), .unset]) rfl kt) ?_
      refine go (T' := T1020) (g' := (mkF m 160 #[.val (.int p1), .val (.int p2), .val (.int p3), .val (.int p4), .val (.int p5), .val (.int p6), .val (.int k), .val (.int cr), .val (.ref br), .val (.ref bc), .unset] [])) (fun t kt => XS.goto X1020.here hx rfl (pc0 := 45) (pc' := 160) rfl (hb hby at_45) (by decide) (by decide) kt) ?_
      obtain ⟨T1021, h1021, X1021, e1021, E1021, A1021, D1021, -, st1021⟩ := newO X1020 hx hZ hown (hw _ (List.mem_of_getElem? (i := 2) rfl)) (hw _ (List.mem_of_getElem? (i := 3) rfl)) (hw _ (List.mem_of_getElem? (i := 4) rfl)) e1020 (g := (mkF m 160 #[.val (.int p1), .val (.int p2), .val (.int p3), .val (.int p4), .val (.int p5), .val (.int p6), .val (.int k), .val (.int cr), .val (.ref br), .val (.ref bc), .unset] [])) rfl (hb hby at_160) (by decide) (by decide)
      obtain ⟨bm, g1021⟩ : ∃ z, z = h1020.size := ⟨_, rfl⟩
      rw [← g1021] at A1021 D1021 st1021
      have ne_bc_bm : bc ≠ bm := Nat.ne_of_lt (Nat.lt_of_lt_of_le V_bc.lt (Nat.le_of_eq g1021.symm))
      have ne_br_bm : br ≠ bm := Nat.ne_of_lt (Nat.lt_of_lt_of_le fA_br_1020.lt (Nat.le_of_eq g1021.symm))
      have g_bm : n0 ≤ bm := Nat.le_trans z1020 (Nat.le_of_eq g1021.symm)
      have z1021 : n0 ≤ h1021.size := Nat.le_trans z1020 E1021.1
      have fA_br_1021 : Aw Z h1021 br .int (2 : Int32) (upd (upd (fun _ => defaultValue .int) ((0 : Int32)).toNatClampNeg (.int p2)) ((1 : Int32)).toNatClampNeg (.int p3)) := fA_br_1020.ext E1021
      have fE_br_1021 : Exa Z h1021 br "[I" := fE_br_1020.ext E1021
      have fA_bc_1021 : Aw Z h1021 bc .int (0 : Int32) (fun _ => defaultValue .int) := V_bc.ext E1021
      have fE_bc_1021 : Exa Z h1021 bc "[I" := B1020.ext E1021
      have F_route_bm : Fld Z h1021 bm "com/example/damarium/damarium/position/Move" "route" "[I" .null := D1021 (Or.inr (hw _ (List.mem_of_getElem? (i := 21) rfl))) (ty := (.array .int)) (by decide)
      have F_captured_bm : Fld Z h1021 bm "com/example/damarium/damarium/position/Move" "captured" "[I" .null := D1021 (Or.inr (hw _ (List.mem_of_getElem? (i := 23) rfl))) (ty := (.array .int)) (by decide)
      have F_crowns_bm : Fld Z h1021 bm "com/example/damarium/damarium/position/Move" "crowns" "Z" (.int (0 : Int32)) := D1021 (Or.inr (hw _ (List.mem_of_getElem? (i := 25) rfl))) (ty := .boolean) (by decide)
      refine go (T' := T1021) (g' := (mkF m 163 #[.val (.int p1), .val (.int p2), .val (.int p3), .val (.int p4), .val (.int p5), .val (.int p6), .val (.int k), .val (.int cr), .val (.ref br), .val (.ref bc), .unset] [(.ref bm)])) st1021 ?_
      refine go (T' := T1021) (g' := (mkF m 164 #[.val (.int p1), .val (.int p2), .val (.int p3), .val (.int p4), .val (.int p5), .val (.int p6), .val (.int k), .val (.int cr), .val (.ref br), .val (.ref bc), .unset] [(.ref bm), (.ref bm)])) (fun t kt => XS.dup X1021.here hx rfl (hb hby at_163) rfl rfl kt) ?_
      refine go (T' := T1021) (g' := (mkF m 166 #[.val (.int p1), .val (.int p2), .val (.int p3), .val (.int p4), .val (.int p5), .val (.int p6), .val (.int k), .val (.int cr), .val (.ref br), .val (.ref bc), .unset] [(.ref br), (.ref bm), (.ref bm)])) (fun t kt => XS.aload X1021.here hx rfl (hb hby at_164) rfl rfl kt) ?_
      refine go (T' := T1021) (g' := (mkF m 168 #[.val (.int p1), .val (.int p2), .val (.int p3), .val (.int p4), .val (.int p5), .val (.int p6), .val (.int k), .val (.int cr), .val (.ref br), .val (.ref bc), .unset] [(.ref bc), (.ref br), (.ref bm), (.ref bm)])) (fun t kt => XS.aload X1021.here hx rfl (hb hby at_166) rfl rfl kt) ?_
      refine go (T' := T1021) (g' := (mkF m 170 #[.val (.int p1), .val (.int p2), .val (.int p3), .val (.int p4), .val (.int p5), .val (.int p6), .val (.int k), .val (.int cr), .val (.ref br), .val (.ref bc), .unset] [(.int cr), (.ref bc), (.ref br), (.ref bm), (.ref bm)])) (fun t kt => XS.iload X1021.here hx rfl (hb hby at_168) rfl kt) ?_
      obtain ⟨_, _, ⟨T1022, L1022, k1022, n1022⟩, -, X1022, ⟨Lc1022, hQ1022, l1022, y1022, z1022⟩, st1022⟩ := X1021.specialBack hx (y := (⟨"com/example/damarium/damarium/position/Move", "<init>", "([I[IZ)V"⟩ : MethodName)) rfl hown (mvT hZ (hw _ (List.mem_of_getElem? (i := 5) rfl))) (mvT hZ (hw _ (List.mem_of_getElem? (i := 6) rfl))) (mvT hZ (hw _ (List.mem_of_getElem? (i := 7) rfl))) (by decide) (backOf (W := 1) (rm1 l Z a0 hw [] bm br bc cr (2 : Int32) (0 : Int32) (upd (upd (fun _ => defaultValue .int) ((0 : Int32)).toNatClampNeg (.int p2)) ((1 : Int32)).toNatClampNeg (.int p3)) (fun _ => defaultValue .int) h1021 n0 z1021 g_bm A1021 F_route_bm F_captured_bm F_crowns_bm fA_br_1021 fE_br_1021 fA_bc_1021 fE_bc_1021 ne_br_bm ne_bc_bm (by decide) (by decide) (by decide)) hZ (hw _ (List.mem_of_getElem? (i := 7) rfl)) (hw _ (List.mem_of_getElem? (i := 4) rfl)) (by decide) (by decide)) (g := (mkF m 170 #[.val (.int p1), .val (.int p2), .val (.int p3), .val (.int p4), .val (.int p5), .val (.int p6), .val (.int k), .val (.int cr), .val (.ref br), .val (.ref bc), .unset] [(.int cr), (.ref bc), (.ref br), (.ref bm), (.ref bm)])) rfl (by rw [hml]; rfl) (Steps.refl _) (a := bm) (argsL := [(.ref br), (.ref bc), (.int cr)]) (rest := [(.ref bm)]) (lenOf pd_0 rfl) rfl (by show 2 * 0 + _ ≤ _; exact Nat.le_of_eq rfl) (hb hby at_170) (fun _ _ => ⟨rfl, e1021, (by decide : 3 + 2 ≤ _), (by decide : 5 + 8 ≤ _)⟩)
      dsimp only [Pt.U, Pt.locs, Pt.cells, Pt.slots] at X1022 l1022 y1022 z1022 st1022 hQ1022
      subst l1022 y1022 z1022
      obtain ⟨rfl, N1022q, K1022, bx, fx, Fx, Vx⟩ := hQ1022
      have N1022 := Fr.app N1019 N1022q
      refine goV (T' := T1022) (g' := (mkF m 173 #[.val (.int p1), .val (.int p2), .val (.int p3), .val (.int p4), .val (.int p5), .val (.int p6), .val (.int k), .val (.int cr), .val (.ref br), .val (.ref bc), .unset] [(.ref bm)])) st1022 ?_
      have z1022 : n0 ≤ T1022.heap.size := Nat.le_trans z1021 K1022.1
      have fE_bm_1022 : Exa Z T1022.heap bm "com/example/damarium/damarium/position/Move" := A1021.keep K1022
      refine go (T' := T1022) (g' := (mkF m 175 #[.val (.int p1), .val (.int p2), .val (.int p3), .val (.int p4), .val (.int p5), .val (.int p6), .val (.int k), .val (.int cr), .val (.ref br), .val (.ref bc), .val (.ref bm)] [])) (fun t kt => XS.astore X1022.here hx rfl (hb hby at_173) rfl rfl (l' := #[.val (.int p1), .val (.int p2), .val (.int p3), .val (.int p4), .val (.int p5), .val (.int p6), .val (.int k), .val (.int cr), .val (.ref br), .val (.ref bc), .val (.ref bm)]) rfl kt) ?_
      refine go (T' := T1022) (g' := (mkF m 177 #[.val (.int p1), .val (.int p2), .val (.int p3), .val (.int p4), .val (.int p5), .val (.int p6), .val (.int k), .val (.int cr), .val (.ref br), .val (.ref bc), .val (.ref bm)] [(.ref bm)])) (fun t kt => XS.aload X1022.here hx rfl (hb hby at_175) rfl rfl kt) ?_
      obtain ⟨cq1023, kq1023, q1023a, q1023b, q1023c⟩ := isOf hZ rfl fE_bm_1022
      obtain ⟨_, _, ⟨T1023, L1023, k1023, n1023⟩, -, X1023, ⟨Lc1023, hQ1023, l1023, y1023, z1023⟩, st1023⟩ := X1022.virtualBack hx (y := (⟨"com/example/damarium/damarium/position/Move", "isCapture", "()Z"⟩ : MethodName)) (z := (⟨"com/example/damarium/damarium/position/Move", "isCapture", "()Z"⟩ : MethodName)) hown (mvT hZ (hw _ (List.mem_of_getElem? (i := 26) rfl))) (mvT hZ (hw _ (List.mem_of_getElem? (i := 27) rfl))) (notFace_of_selects (args := #[]) (mvT hZ (hw _ (List.mem_of_getElem? (i := 29) rfl)))) (mvT hZ (hw _ (List.mem_of_getElem? (i := 29) rfl))) (mvT hZ (hw _ (List.mem_of_getElem? (i := 28) rfl))) (by decide) (backOf (W := 0) (rm3 l Z a0 hw [] bm bx (0 : Int32) fx T1022.heap n0 z1022 Fx Vx) hZ (hw _ (List.mem_of_getElem? (i := 30) rfl)) (hw _ (List.mem_of_getElem? (i := 4) rfl)) (by decide) (by decide)) q1023a q1023c (g := (mkF m 177 #[.val (.int p1), .val (.int p2), .val (.int p3), .val (.int p4), .val (.int p5), .val (.int p6), .val (.int k), .val (.int cr), .val (.ref br), .val (.ref bc), .val (.ref bm)] [(.ref bm)])) rfl (by rw [hml]; rfl) (Steps.refl _) (argsL := []) (rest := []) (lenOf pd_1 rfl) rfl (by show 2 * 0 + _ ≤ _; exact Nat.le_of_eq rfl) (hb hby at_177) (fun _ _ => ⟨rfl, rfl, (by decide : 5 + 0 ≤ _), (by decide : 13 + 0 ≤ _)⟩)
      dsimp only [Pt.U, Pt.locs, Pt.cells, Pt.slots] at X1023 l1023 y1023 z1023 st1023 hQ1023
      subst l1023 y1023 z1023
      obtain ⟨rfl, N1023q, e1023⟩ := hQ1023
      have N1023 := Fr.app N1022 N1023q
      refine goV (T' := T1023) (g' := (mkF m 180 #[.val (.int p1), .val (.int p2), .val (.int p3), .val (.int p4), .val (.int p5), .val (.int p6), .val (.int k), .val (.int cr), .val (.ref br), .val (.ref bc), .val (.ref bm)] [(.int (own_cap (0 : Int32)))])) st1023 ?_
      refine go (T' := T1023) (g' := (mkF m 182 #[.val (.int p1), .val (.int p2), .val (.int p3), .val (.int p4), .val (.int p5), .val (.int p6), .val (.int k), .val (.int cr), .val (.ref br), .val (.ref bc), .val (.ref bm)] [(.int k), (.int (own_cap (0 : Int32)))])) (fun t kt => XS.iload X1023.here hx rfl (hb hby at_180) rfl kt) ?_
      refine go (T' := T1023) (g' := (mkF m 189 #[.val (.int p1), .val (.int p2), .val (.int p3), .val (.int p4), .val (.int p5), .val (.int p6), .val (.int k), .val (.int cr), .val (.ref br), .val (.ref bc), .val (.ref bm)] [(.int (own_cap (0 : Int32)))])) (fun t kt => XS.ifYes X1023.here hx rfl (pc0 := 182) (pc' := 189) rfl (hb hby at_182) rfl ((if0 _ _).trans (teq hk0).1) (by decide) (by decide) kt) ?_
      refine go (T' := T1023) (g' := (mkF m 190 #[.val (.int p1), .val (.int p2), .val (.int p3), .val (.int p4), .val (.int p5), .val (.int p6), .val (.int k), .val (.int cr), .val (.ref br), .val (.ref bc), .val (.ref bm)] [(.int (0 : Int32)), (.int (own_cap (0 : Int32)))])) (fun t kt => XS.iconst X1023.here hx rfl (hb hby at_189) kt) ?_
      refine go (T' := T1023) (g' := (mkF m 193 #[.val (.int p1), .val (.int p2), .val (.int p3), .val (.int p4), .val (.int p5), .val (.int p6), .val (.int k), .val (.int cr), .val (.ref br), .val (.ref bc), .val (.ref bm)] [])) (fun t kt => XS.icmpNo X1023.here hx rfl (hb hby at_190) rfl (teq (by decide)).2 kt) ?_
      refine go (T' := T1023) (g' := (mkF m 194 #[.val (.int p1), .val (.int p2), .val (.int p3), .val (.int p4), .val (.int p5), .val (.int p6), .val (.int k), .val (.int cr), .val (.ref br), .val (.ref bc), .val (.ref bm)] [(.int (1 : Int32))])) (fun t kt => XS.iconst X1023.here hx rfl (hb hby at_193) kt) ?_
      refine go (T' := T1023) (g' := (mkF m 198 #[.val (.int p1), .val (.int p2), .val (.int p3), .val (.int p4), .val (.int p5), .val (.int p6), .val (.int k), .val (.int cr), .val (.ref br), .val (.ref bc), .val (.ref bm)] [(.int (1 : Int32))])) (fun t kt => XS.goto X1023.here hx rfl (pc0 := 194) (pc' := 198) rfl (hb hby at_194) (by decide) (by decide) kt) ?_
      refine goRetN X1023 hx hlk (t := .boolean) Bd.returns (by simp) (hb hby at_198) ?_ (by decide) (by decide)
      rw [e1023]
      exact ⟨rfl, N1023⟩
    · refine go (T' := s₁) (g' := (mkF m 48 #[.val (.int p1), .val (.int p2), .val (.int p3), .val (.int p4), .val (.int p5), .val (.int p6), .val (.int k), .val (.int cr), .unset, .unset, .unset] [])) (fun t kt => XS.ifYes X0.here hx rfl (pc0 := 24) (pc' := 48) rfl (hb hby at_24) rfl ((if0 _ _).trans (feq hk0).2) (by decide) (by decide) kt) ?_
      refine go (T' := s₁) (g' := (mkF m 50 #[.val (.int p1), .val (.int p2), .val (.int p3), .val (.int p4), .val (.int p5), .val (.int p6), .val (.int k), .val (.int cr), .unset, .unset, .unset] [(.int k)])) (fun t kt => XS.iload X0.here hx rfl (hb hby at_48) rfl kt) ?_
      refine go (T' := s₁) (g' := (mkF m 51 #[.val (.int p1), .val (.int p2), .val (.int p3), .val (.int p4), .val (.int p5), .val (.int p6), .val (.int k), .val (.int cr), .unset, .unset, .unset] [(.int (1 : Int32)), (.int k)])) (fun t kt => XS.iconst X0.here hx rfl (hb hby at_50) kt) ?_
      by_cases hk1 : k = (1 : Int32)
      · refine go (T' := s₁) (g' := (mkF m 54 #[.val (.int p1), .val (.int p2), .val (.int p3), .val (.int p4), .val (.int p5), .val (.int p6), .val (.int k), .val (.int cr), .unset, .unset, .unset] [])) (fun t kt => XS.icmpNo X0.here hx rfl (hb hby at_51) rfl (teq hk1).2 kt) ?_
        refine go (T' := s₁) (g' := (mkF m 55 #[.val (.int p1), .val (.int p2), .val (.int p3), .val (.int p4), .val (.int p5), .val (.int p6), .val (.int k), .val (.int cr), .unset, .unset, .unset] [(.int (2 : Int32))])) (fun t kt => XS.iconst X0.here hx rfl (hb hby at_54) kt) ?_
        obtain ⟨T1024, h1024, kc1024, X1024, e1024, E1024, A1024, B1024, st1024⟩ := newPE X0 hx hZ (hw _ (List.mem_of_getElem? (i := 1) rfl)) e0 (g := (mkF m 55 #[.val (.int p1), .val (.int p2), .val (.int p3), .val (.int p4), .val (.int p5), .val (.int p6), .val (.int k), .val (.int cr), .unset, .unset, .unset] [(.int (2 : Int32))])) rfl (hb hby at_55) rfl (by decide) (cap := 2) (by decide) (by decide) (by decide) (by decide) (ad := "[I") (by decide +kernel)
        obtain ⟨br, g1024⟩ : ∃ z, z = h0.size := ⟨_, rfl⟩
        rw [← g1024] at A1024 B1024 st1024
        have g_br : n0 ≤ br := Nat.le_trans Z0 (Nat.le_of_eq g1024.symm)
        have z1024 : n0 ≤ h1024.size := Nat.le_trans Z0 E1024.1
        have V_br : Aw Z h1024 br .int (2 : Int32) (fun _ => defaultValue .int) := Aw.new A1024 (by decide)
        refine go (T' := T1024) (g' := (mkF m 57 #[.val (.int p1), .val (.int p2), .val (.int p3), .val (.int p4), .val (.int p5), .val (.int p6), .val (.int k), .val (.int cr), .unset, .unset, .unset] [(.ref br)])) st1024 ?_
        refine go (T' := T1024) (g' := (mkF m 58 #[.val (.int p1), .val (.int p2), .val (.int p3), .val (.int p4), .val (.int p5), .val (.int p6), .val (.int k), .val (.int cr), .unset, .unset, .unset] [(.ref br), (.ref br)])) (fun t kt => XS.dup X1024.here hx rfl (hb hby at_57) rfl rfl kt) ?_
        refine go (T' := T1024) (g' := (mkF m 59 #[.val (.int p1), .val (.int p2), .val (.int p3), .val (.int p4), .val (.int p5), .val (.int p6), .val (.int k), .val (.int cr), .unset, .unset, .unset] [(.int (0 : Int32)), (.ref br), (.ref br)])) (fun t kt => XS.iconst X1024.here hx rfl (hb hby at_58) kt) ?_
        refine go (T' := T1024) (g' := (mkF m 60 #[.val (.int p1), .val (.int p2), .val (.int p3), .val (.int p4), .val (.int p5), .val (.int p6), .val (.int k), .val (.int cr), .unset, .unset, .unset] [(.int p2), (.int (0 : Int32)), (.ref br), (.ref br)])) (fun t kt => XS.iloadN X1024.here hx rfl (hb hby at_59) rfl kt) ?_
        obtain ⟨T1025, h1025, X1025, e1025, W1025, V1025, st1025⟩ := own_stI X1024 hx hZ e1024 V_br (j := (0 : Int32)) ⟨by decide, by decide⟩ (g := (mkF m 60 #[.val (.int p1), .val (.int p2), .val (.int p3), .val (.int p4), .val (.int p5), .val (.int p6), .val (.int k), .val (.int cr), .unset, .unset, .unset] [(.int p2), (.int (0 : Int32)), (.ref br), (.ref br)])) rfl rfl (hb hby at_60)
        have z1025 : n0 ≤ h1025.size := Nat.le_trans z1024 (Keep.of_wr W1025).1
        have fE_br_1025 : Exa Z h1025 br "[I" := B1024.wr W1025
        have N1025 := Fr.snoc X1025 N0 g_br
        refine go (T' := T1025) (g' := (mkF m 61 #[.val (.int p1), .val (.int p2), .val (.int p3), .val (.int p4), .val (.int p5), .val (.int p6), .val (.int k), .val (.int cr), .unset, .unset, .unset] [(.ref br)])) st1025 ?_
        refine go (T' := T1025) (g' := (mkF m 62 #[.val (.int p1), .val (.int p2), .val (.int p3), .val (.int p4), .val (.int p5), .val (.int p6), .val (.int k), .val (.int cr), .unset, .unset, .unset] [(.ref br), (.ref br)])) (fun t kt => XS.dup X1025.here hx rfl (hb hby at_61) rfl rfl kt) ?_
        refine go (T' := T1025) (g' := (mkF m 63 #[.val (.int p1), .val (.int p2), .val (.int p3), .val (.int p4), .val (.int p5), .val (.int p6), .val (.int k), .val (.int cr), .unset, .unset, .unset] [(.int (1 : Int32)), (.ref br), (.ref br)])) (fun t kt => XS.iconst X1025.here hx rfl (hb hby at_62) kt) ?_
        refine go (T' := T1025) (g' := (mkF m 64 #[.val (.int p1), .val (.int p2), .val (.int p3), .val (.int p4), .val (.int p5), .val (.int p6), .val (.int k), .val (.int cr), .unset, .unset, .unset] [(.int p3), (.int (1 : Int32)), (.ref br), (.ref br)])) (fun t kt => XS.iloadN X1025.here hx rfl (hb hby at_63) rfl kt) ?_
        obtain ⟨T1026, h1026, X1026, e1026, W1026, V1026, st1026⟩ := own_stI X1025 hx hZ e1025 V1025 (j := (1 : Int32)) ⟨by decide, by decide⟩ (g := (mkF m 64 #[.val (.int p1), .val (.int p2), .val (.int p3), .val (.int p4), .val (.int p5), .val (.int p6), .val (.int k), .val (.int cr), .unset, .unset, .unset] [(.int p3), (.int (1 : Int32)), (.ref br), (.ref br)])) rfl rfl (hb hby at_64)
        have z1026 : n0 ≤ h1026.size := Nat.le_trans z1025 (Keep.of_wr W1026).1
        have fE_br_1026 : Exa Z h1026 br "[I" := fE_br_1025.wr W1026
        have N1026 := Fr.snoc X1026 N1025 g_br
        refine go (T' := T1026) (g' := (mkF m 65 #[.val (.int p1), .val (.int p2), .val (.int p3), .val (.int p4), .val (.int p5), .val (.int p6), .val (.int k), .val (.int cr), .unset, .unset, .unset] [(.ref br)])) st1026 ?_
        refine go (T' := T1026) (g' := (mkF m 67 #[.val (.int p1), .val (.int p2), .val (.int p3), .val (.int p4), .val (.int p5), .val (.int p6), .val (.int k), .val (.int cr), .val (.ref br), .unset, .unset] [])) (fun t kt => XS.astore X1026.here hx rfl (hb hby at_65) rfl rfl (l' := #[.val (.int p1), .val (.int p2), .val (.int p3), .val (.int p4), .val (.int p5), .val (.int p6), .val (.int k), .val (.int cr), .val (.ref br), .unset, .unset]) rfl kt) ?_
        refine go (T' := T1026) (g' := (mkF m 68 #[.val (.int p1), .val (.int p2), .val (.int p3), .val (.int p4), .val (.int p5), .val (.int p6), .val (.int k), .val (.int cr), .val (.ref br), .unset, .unset] [(.int (1 : Int32))])) (fun t kt => XS.iconst X1026.here hx rfl (hb hby at_67) kt) ?_
        obtain ⟨T1027, h1027, kc1027, X1027, e1027, E1027, A1027, B1027, st1027⟩ := newPE X1026 hx hZ (hw _ (List.mem_of_getElem? (i := 1) rfl)) e1026 (g := (mkF m 68 #[.val (.int p1), .val (.int p2), .val (.int p3), .val (.int p4), .val (.int p5), .val (.int p6), .val (.int k), .val (.int cr), .val (.ref br), .unset, .unset] [(.int (1 : Int32))])) rfl (hb hby at_68) rfl (by decide) (cap := 1) (by decide) (by decide) (by decide) (by decide) (ad := "[I") (by decide +kernel)
        obtain ⟨bc, g1027⟩ : ∃ z, z = h1026.size := ⟨_, rfl⟩
        rw [← g1027] at A1027 B1027 st1027
        have ne_br_bc : br ≠ bc := Nat.ne_of_lt (Nat.lt_of_lt_of_le V1026.lt (Nat.le_of_eq g1027.symm))
        have g_bc : n0 ≤ bc := Nat.le_trans z1026 (Nat.le_of_eq g1027.symm)
        have z1027 : n0 ≤ h1027.size := Nat.le_trans z1026 E1027.1
        have fA_br_1027 : Aw Z h1027 br .int (2 : Int32) (upd (upd (fun _ => defaultValue .int) ((0 : Int32)).toNatClampNeg (.int p2)) ((1 : Int32)).toNatClampNeg (.int p3)) := V1026.ext E1027
        have fE_br_1027 : Exa Z h1027 br "[I" := fE_br_1026.ext E1027
        have V_bc : Aw Z h1027 bc .int (1 : Int32) (fun _ => defaultValue .int) := Aw.new A1027 (by decide)
        refine go (T' := T1027) (g' := (mkF m 70 #[.val (.int p1), .val (.int p2), .val (.int p3), .val (.int p4), .val (.int p5), .val (.int p6), .val (.int k), .val (.int cr), .val (.ref br), .unset, .unset] [(.ref bc)])) st1027 ?_
        refine go (T' := T1027) (g' := (mkF m 71 #[.val (.int p1), .val (.int p2), .val (.int p3), .val (.int p4), .val (.int p5), .val (.int p6), .val (.int k), .val (.int cr), .val (.ref br), .unset, .unset] [(.ref bc), (.ref bc)])) (fun t kt => XS.dup X1027.here hx rfl (hb hby at_70) rfl rfl kt) ?_
        refine go (T' := T1027) (g' := (mkF m 72 #[.val (.int p1), .val (.int p2), .val (.int p3), .val (.int p4), .val (.int p5), .val (.int p6), .val (.int k), .val (.int cr), .val (.ref br), .unset, .unset] [(.int (0 : Int32)), (.ref bc), (.ref bc)])) (fun t kt => XS.iconst X1027.here hx rfl (hb hby at_71) kt) ?_
        refine go (T' := T1027) (g' := (mkF m 73 #[.val (.int p1), .val (.int p2), .val (.int p3), .val (.int p4), .val (.int p5), .val (.int p6), .val (.int k), .val (.int cr), .val (.ref br), .unset, .unset] [(.int p4), (.int (0 : Int32)), (.ref bc), (.ref bc)])) (fun t kt => XS.iloadN X1027.here hx rfl (hb hby at_72) rfl kt) ?_
        obtain ⟨T1028, h1028, X1028, e1028, W1028, V1028, st1028⟩ := own_stI X1027 hx hZ e1027 V_bc (j := (0 : Int32)) ⟨by decide, by decide⟩ (g := (mkF m 73 #[.val (.int p1), .val (.int p2), .val (.int p3), .val (.int p4), .val (.int p5), .val (.int p6), .val (.int k), .val (.int cr), .val (.ref br), .unset, .unset] [(.int p4), (.int (0 : Int32)), (.ref bc), (.ref bc)])) rfl rfl (hb hby at_73)
        have z1028 : n0 ≤ h1028.size := Nat.le_trans z1027 (Keep.of_wr W1028).1
        have fA_br_1028 : Aw Z h1028 br .int (2 : Int32) (upd (upd (fun _ => defaultValue .int) ((0 : Int32)).toNatClampNeg (.int p2)) ((1 : Int32)).toNatClampNeg (.int p3)) := fA_br_1027.other W1028 ne_br_bc
        have fE_br_1028 : Exa Z h1028 br "[I" := fE_br_1027.wr W1028
        have fE_bc_1028 : Exa Z h1028 bc "[I" := B1027.wr W1028
        have N1028 := Fr.snoc X1028 N1026 g_bc
        refine go (T' := T1028) (g' := (mkF m 74 #[.val (.int p1), .val (.int p2), .val (.int p3), .val (.int p4), .val (.int p5), .val (.int p6), .val (.int k), .val (.int cr), .val (.ref br), .unset, .unset] [(.ref bc)])) st1028 ?_
        refine go (T' := T1028) (g' := (mkF m 76 #[.val (.int p1), .val (.int p2), .val (.int p3), .val (.int p4), .val (.int p5), .val (.int p6), .val (.int k), .val (.int cr), .val (.ref br), .val (.ref bc), .unset] [])) (fun t kt => XS.astore X1028.here hx rfl (hb hby at_74) rfl rfl (l' := #[.val (.int p1), .val (.int p2), .val (.int p3), .val (.int p4), .val (.int p5), .val (.int p6), .val (.int k), .val (.int cr), .val (.ref br), .val (.ref bc), .unset]) rfl kt) ?_
        refine go (T' := T1028) (g' := (mkF m 160 #[.val (.int p1), .val (.int p2), .val (.int p3), .val (.int p4), .val (.int p5), .val (.int p6), .val (.int k), .val (.int cr), .val (.ref br), .val (.ref bc), .unset] [])) (fun t kt => XS.goto X1028.here hx rfl (pc0 := 76) (pc' := 160) rfl (hb hby at_76) (by decide) (by decide) kt) ?_
        obtain ⟨T1029, h1029, X1029, e1029, E1029, A1029, D1029, -, st1029⟩ := newO X1028 hx hZ hown (hw _ (List.mem_of_getElem? (i := 2) rfl)) (hw _ (List.mem_of_getElem? (i := 3) rfl)) (hw _ (List.mem_of_getElem? (i := 4) rfl)) e1028 (g := (mkF m 160 #[.val (.int p1), .val (.int p2), .val (.int p3), .val (.int p4), .val (.int p5), .val (.int p6), .val (.int k), .val (.int cr), .val (.ref br), .val (.ref bc), .unset] [])) rfl (hb hby at_160) (by decide) (by decide)
        obtain ⟨bm, g1029⟩ : ∃ z, z = h1028.size := ⟨_, rfl⟩
        rw [← g1029] at A1029 D1029 st1029
        have ne_bc_bm : bc ≠ bm := Nat.ne_of_lt (Nat.lt_of_lt_of_le V1028.lt (Nat.le_of_eq g1029.symm))
        have ne_br_bm : br ≠ bm := Nat.ne_of_lt (Nat.lt_of_lt_of_le fA_br_1028.lt (Nat.le_of_eq g1029.symm))
        have g_bm : n0 ≤ bm := Nat.le_trans z1028 (Nat.le_of_eq g1029.symm)
        have z1029 : n0 ≤ h1029.size := Nat.le_trans z1028 E1029.1
        have fA_br_1029 : Aw Z h1029 br .int (2 : Int32) (upd (upd (fun _ => defaultValue .int) ((0 : Int32)).toNatClampNeg (.int p2)) ((1 : Int32)).toNatClampNeg (.int p3)) := fA_br_1028.ext E1029
        have fE_br_1029 : Exa Z h1029 br "[I" := fE_br_1028.ext E1029
        have fA_bc_1029 : Aw Z h1029 bc .int (1 : Int32) (upd (fun _ => defaultValue .int) ((0 : Int32)).toNatClampNeg (.int p4)) := V1028.ext E1029
        have fE_bc_1029 : Exa Z h1029 bc "[I" := fE_bc_1028.ext E1029
        have F_route_bm : Fld Z h1029 bm "com/example/damarium/damarium/position/Move" "route" "[I" .null := D1029 (Or.inr (hw _ (List.mem_of_getElem? (i := 21) rfl))) (ty := (.array .int)) (by decide)
        have F_captured_bm : Fld Z h1029 bm "com/example/damarium/damarium/position/Move" "captured" "[I" .null := D1029 (Or.inr (hw _ (List.mem_of_getElem? (i := 23) rfl))) (ty := (.array .int)) (by decide)
        have F_crowns_bm : Fld Z h1029 bm "com/example/damarium/damarium/position/Move" "crowns" "Z" (.int (0 : Int32)) := D1029 (Or.inr (hw _ (List.mem_of_getElem? (i := 25) rfl))) (ty := .boolean) (by decide)
        refine go (T' := T1029) (g' := (mkF m 163 #[.val (.int p1), .val (.int p2), .val (.int p3), .val (.int p4), .val (.int p5), .val (.int p6), .val (.int k), .val (.int cr), .val (.ref br), .val (.ref bc), .unset] [(.ref bm)])) st1029 ?_
        refine go (T' := T1029) (g' := (mkF m 164 #[.val (.int p1), .val (.int p2), .val (.int p3), .val (.int p4), .val (.int p5), .val (.int p6), .val (.int k), .val (.int cr), .val (.ref br), .val (.ref bc), .unset] [(.ref bm), (.ref bm)])) (fun t kt => XS.dup X1029.here hx rfl (hb hby at_163) rfl rfl kt) ?_
        refine go (T' := T1029) (g' := (mkF m 166 #[.val (.int p1), .val (.int p2), .val (.int p3), .val (.int p4), .val (.int p5), .val (.int p6), .val (.int k), .val (.int cr), .val (.ref br), .val (.ref bc), .unset] [(.ref br), (.ref bm), (.ref bm)])) (fun t kt => XS.aload X1029.here hx rfl (hb hby at_164) rfl rfl kt) ?_
        refine go (T' := T1029) (g' := (mkF m 168 #[.val (.int p1), .val (.int p2), .val (.int p3), .val (.int p4), .val (.int p5), .val (.int p6), .val (.int k), .val (.int cr), .val (.ref br), .val (.ref bc), .unset] [(.ref bc), (.ref br), (.ref bm), (.ref bm)])) (fun t kt => XS.aload X1029.here hx rfl (hb hby at_166) rfl rfl kt) ?_
        refine go (T' := T1029) (g' := (mkF m 170 #[.val (.int p1), .val (.int p2), .val (.int p3), .val (.int p4), .val (.int p5), .val (.int p6), .val (.int k), .val (.int cr), .val (.ref br), .val (.ref bc), .unset] [(.int cr), (.ref bc), (.ref br), (.ref bm), (.ref bm)])) (fun t kt => XS.iload X1029.here hx rfl (hb hby at_168) rfl kt) ?_
        obtain ⟨_, _, ⟨T1030, L1030, k1030, n1030⟩, -, X1030, ⟨Lc1030, hQ1030, l1030, y1030, z1030⟩, st1030⟩ := X1029.specialBack hx (y := (⟨"com/example/damarium/damarium/position/Move", "<init>", "([I[IZ)V"⟩ : MethodName)) rfl hown (mvT hZ (hw _ (List.mem_of_getElem? (i := 5) rfl))) (mvT hZ (hw _ (List.mem_of_getElem? (i := 6) rfl))) (mvT hZ (hw _ (List.mem_of_getElem? (i := 7) rfl))) (by decide) (backOf (W := 1) (rm1 l Z a0 hw [] bm br bc cr (2 : Int32) (1 : Int32) (upd (upd (fun _ => defaultValue .int) ((0 : Int32)).toNatClampNeg (.int p2)) ((1 : Int32)).toNatClampNeg (.int p3)) (upd (fun _ => defaultValue .int) ((0 : Int32)).toNatClampNeg (.int p4)) h1029 n0 z1029 g_bm A1029 F_route_bm F_captured_bm F_crowns_bm fA_br_1029 fE_br_1029 fA_bc_1029 fE_bc_1029 ne_br_bm ne_bc_bm (by decide) (by decide) (by decide)) hZ (hw _ (List.mem_of_getElem? (i := 7) rfl)) (hw _ (List.mem_of_getElem? (i := 4) rfl)) (by decide) (by decide)) (g := (mkF m 170 #[.val (.int p1), .val (.int p2), .val (.int p3), .val (.int p4), .val (.int p5), .val (.int p6), .val (.int k), .val (.int cr), .val (.ref br), .val (.ref bc), .unset] [(.int cr), (.ref bc), (.ref br), (.ref bm), (.ref bm)])) rfl (by rw [hml]; rfl) (Steps.refl _) (a := bm) (argsL := [(.ref br), (.ref bc), (.int cr)]) (rest := [(.ref bm)]) (lenOf pd_0 rfl) rfl (by show 2 * 0 + _ ≤ _; exact Nat.le_of_eq rfl) (hb hby at_170) (fun _ _ => ⟨rfl, e1029, (by decide : 3 + 2 ≤ _), (by decide : 6 + 8 ≤ _)⟩)
        dsimp only [Pt.U, Pt.locs, Pt.cells, Pt.slots] at X1030 l1030 y1030 z1030 st1030 hQ1030
        subst l1030 y1030 z1030
        obtain ⟨rfl, N1030q, K1030, bx, fx, Fx, Vx⟩ := hQ1030
        have N1030 := Fr.app N1028 N1030q
        refine goV (T' := T1030) (g' := (mkF m 173 #[.val (.int p1), .val (.int p2), .val (.int p3), .val (.int p4), .val (.int p5), .val (.int p6), .val (.int k), .val (.int cr), .val (.ref br), .val (.ref bc), .unset] [(.ref bm)])) st1030 ?_
        have z1030 : n0 ≤ T1030.heap.size := Nat.le_trans z1029 K1030.1
        have fE_bm_1030 : Exa Z T1030.heap bm "com/example/damarium/damarium/position/Move" := A1029.keep K1030
        refine go (T' := T1030) (g' := (mkF m 175 #[.val (.int p1), .val (.int p2), .val (.int p3), .val (.int p4), .val (.int p5), .val (.int p6), .val (.int k), .val (.int cr), .val (.ref br), .val (.ref bc), .val (.ref bm)] [])) (fun t kt => XS.astore X1030.here hx rfl (hb hby at_173) rfl rfl (l' := #[.val (.int p1), .val (.int p2), .val (.int p3), .val (.int p4), .val (.int p5), .val (.int p6), .val (.int k), .val (.int cr), .val (.ref br), .val (.ref bc), .val (.ref bm)]) rfl kt) ?_
        refine go (T' := T1030) (g' := (mkF m 177 #[.val (.int p1), .val (.int p2), .val (.int p3), .val (.int p4), .val (.int p5), .val (.int p6), .val (.int k), .val (.int cr), .val (.ref br), .val (.ref bc), .val (.ref bm)] [(.ref bm)])) (fun t kt => XS.aload X1030.here hx rfl (hb hby at_175) rfl rfl kt) ?_
        obtain ⟨cq1031, kq1031, q1031a, q1031b, q1031c⟩ := isOf hZ rfl fE_bm_1030
        obtain ⟨_, _, ⟨T1031, L1031, k1031, n1031⟩, -, X1031, ⟨Lc1031, hQ1031, l1031, y1031, z1031⟩, st1031⟩ := X1030.virtualBack hx (y := (⟨"com/example/damarium/damarium/position/Move", "isCapture", "()Z"⟩ : MethodName)) (z := (⟨"com/example/damarium/damarium/position/Move", "isCapture", "()Z"⟩ : MethodName)) hown (mvT hZ (hw _ (List.mem_of_getElem? (i := 26) rfl))) (mvT hZ (hw _ (List.mem_of_getElem? (i := 27) rfl))) (notFace_of_selects (args := #[]) (mvT hZ (hw _ (List.mem_of_getElem? (i := 29) rfl)))) (mvT hZ (hw _ (List.mem_of_getElem? (i := 29) rfl))) (mvT hZ (hw _ (List.mem_of_getElem? (i := 28) rfl))) (by decide) (backOf (W := 0) (rm3 l Z a0 hw [] bm bx (1 : Int32) fx T1030.heap n0 z1030 Fx Vx) hZ (hw _ (List.mem_of_getElem? (i := 30) rfl)) (hw _ (List.mem_of_getElem? (i := 4) rfl)) (by decide) (by decide)) q1031a q1031c (g := (mkF m 177 #[.val (.int p1), .val (.int p2), .val (.int p3), .val (.int p4), .val (.int p5), .val (.int p6), .val (.int k), .val (.int cr), .val (.ref br), .val (.ref bc), .val (.ref bm)] [(.ref bm)])) rfl (by rw [hml]; rfl) (Steps.refl _) (argsL := []) (rest := []) (lenOf pd_1 rfl) rfl (by show 2 * 0 + _ ≤ _; exact Nat.le_of_eq rfl) (hb hby at_177) (fun _ _ => ⟨rfl, rfl, (by decide : 5 + 0 ≤ _), (by decide : 14 + 0 ≤ _)⟩)
        dsimp only [Pt.U, Pt.locs, Pt.cells, Pt.slots] at X1031 l1031 y1031 z1031 st1031 hQ1031
        subst l1031 y1031 z1031
        obtain ⟨rfl, N1031q, e1031⟩ := hQ1031
        have N1031 := Fr.app N1030 N1031q
        refine goV (T' := T1031) (g' := (mkF m 180 #[.val (.int p1), .val (.int p2), .val (.int p3), .val (.int p4), .val (.int p5), .val (.int p6), .val (.int k), .val (.int cr), .val (.ref br), .val (.ref bc), .val (.ref bm)] [(.int (own_cap (1 : Int32)))])) st1031 ?_
        refine go (T' := T1031) (g' := (mkF m 182 #[.val (.int p1), .val (.int p2), .val (.int p3), .val (.int p4), .val (.int p5), .val (.int p6), .val (.int k), .val (.int cr), .val (.ref br), .val (.ref bc), .val (.ref bm)] [(.int k), (.int (own_cap (1 : Int32)))])) (fun t kt => XS.iload X1031.here hx rfl (hb hby at_180) rfl kt) ?_
        refine go (T' := T1031) (g' := (mkF m 185 #[.val (.int p1), .val (.int p2), .val (.int p3), .val (.int p4), .val (.int p5), .val (.int p6), .val (.int k), .val (.int cr), .val (.ref br), .val (.ref bc), .val (.ref bm)] [(.int (own_cap (1 : Int32)))])) (fun t kt => XS.ifNo X1031.here hx rfl (hb hby at_182) rfl ((if0 _ _).trans (feq hk0).1) kt) ?_
        refine go (T' := T1031) (g' := (mkF m 186 #[.val (.int p1), .val (.int p2), .val (.int p3), .val (.int p4), .val (.int p5), .val (.int p6), .val (.int k), .val (.int cr), .val (.ref br), .val (.ref bc), .val (.ref bm)] [(.int (1 : Int32)), (.int (own_cap (1 : Int32)))])) (fun t kt => XS.iconst X1031.here hx rfl (hb hby at_185) kt) ?_
        refine go (T' := T1031) (g' := (mkF m 190 #[.val (.int p1), .val (.int p2), .val (.int p3), .val (.int p4), .val (.int p5), .val (.int p6), .val (.int k), .val (.int cr), .val (.ref br), .val (.ref bc), .val (.ref bm)] [(.int (1 : Int32)), (.int (own_cap (1 : Int32)))])) (fun t kt => XS.goto X1031.here hx rfl (pc0 := 186) (pc' := 190) rfl (hb hby at_186) (by decide) (by decide) kt) ?_
        refine go (T' := T1031) (g' := (mkF m 193 #[.val (.int p1), .val (.int p2), .val (.int p3), .val (.int p4), .val (.int p5), .val (.int p6), .val (.int k), .val (.int cr), .val (.ref br), .val (.ref bc), .val (.ref bm)] [])) (fun t kt => XS.icmpNo X1031.here hx rfl (hb hby at_190) rfl (teq (by decide)).2 kt) ?_
        refine go (T' := T1031) (g' := (mkF m 194 #[.val (.int p1), .val (.int p2), .val (.int p3), .val (.int p4), .val (.int p5), .val (.int p6), .val (.int k), .val (.int cr), .val (.ref br), .val (.ref bc), .val (.ref bm)] [(.int (1 : Int32))])) (fun t kt => XS.iconst X1031.here hx rfl (hb hby at_193) kt) ?_
        refine go (T' := T1031) (g' := (mkF m 198 #[.val (.int p1), .val (.int p2), .val (.int p3), .val (.int p4), .val (.int p5), .val (.int p6), .val (.int k), .val (.int cr), .val (.ref br), .val (.ref bc), .val (.ref bm)] [(.int (1 : Int32))])) (fun t kt => XS.goto X1031.here hx rfl (pc0 := 194) (pc' := 198) rfl (hb hby at_194) (by decide) (by decide) kt) ?_
        refine goRetN X1031 hx hlk (t := .boolean) Bd.returns (by simp) (hb hby at_198) ?_ (by decide) (by decide)
        rw [e1031]
        exact ⟨rfl, N1031⟩
      · refine go (T' := s₁) (g' := (mkF m 79 #[.val (.int p1), .val (.int p2), .val (.int p3), .val (.int p4), .val (.int p5), .val (.int p6), .val (.int k), .val (.int cr), .unset, .unset, .unset] [])) (fun t kt => XS.icmpYes X0.here hx rfl (pc0 := 51) (pc' := 79) rfl (hb hby at_51) rfl (feq hk1).2 (by decide) (by decide) kt) ?_
        refine go (T' := s₁) (g' := (mkF m 81 #[.val (.int p1), .val (.int p2), .val (.int p3), .val (.int p4), .val (.int p5), .val (.int p6), .val (.int k), .val (.int cr), .unset, .unset, .unset] [(.int k)])) (fun t kt => XS.iload X0.here hx rfl (hb hby at_79) rfl kt) ?_
        refine go (T' := s₁) (g' := (mkF m 82 #[.val (.int p1), .val (.int p2), .val (.int p3), .val (.int p4), .val (.int p5), .val (.int p6), .val (.int k), .val (.int cr), .unset, .unset, .unset] [(.int (2 : Int32)), (.int k)])) (fun t kt => XS.iconst X0.here hx rfl (hb hby at_81) kt) ?_
        by_cases hk2 : k = (2 : Int32)
        · refine go (T' := s₁) (g' := (mkF m 85 #[.val (.int p1), .val (.int p2), .val (.int p3), .val (.int p4), .val (.int p5), .val (.int p6), .val (.int k), .val (.int cr), .unset, .unset, .unset] [])) (fun t kt => XS.icmpNo X0.here hx rfl (hb hby at_82) rfl (teq hk2).2 kt) ?_
          refine go (T' := s₁) (g' := (mkF m 86 #[.val (.int p1), .val (.int p2), .val (.int p3), .val (.int p4), .val (.int p5), .val (.int p6), .val (.int k), .val (.int cr), .unset, .unset, .unset] [(.int (3 : Int32))])) (fun t kt => XS.iconst X0.here hx rfl (hb hby at_85) kt) ?_
          obtain ⟨T1032, h1032, kc1032, X1032, e1032, E1032, A1032, B1032, st1032⟩ := newPE X0 hx hZ (hw _ (List.mem_of_getElem? (i := 1) rfl)) e0 (g := (mkF m 86 #[.val (.int p1), .val (.int p2), .val (.int p3), .val (.int p4), .val (.int p5), .val (.int p6), .val (.int k), .val (.int cr), .unset, .unset, .unset] [(.int (3 : Int32))])) rfl (hb hby at_86) rfl (by decide) (cap := 3) (by decide) (by decide) (by decide) (by decide) (ad := "[I") (by decide +kernel)
          obtain ⟨br, g1032⟩ : ∃ z, z = h0.size := ⟨_, rfl⟩
          rw [← g1032] at A1032 B1032 st1032
          have g_br : n0 ≤ br := Nat.le_trans Z0 (Nat.le_of_eq g1032.symm)
          have z1032 : n0 ≤ h1032.size := Nat.le_trans Z0 E1032.1
          have V_br : Aw Z h1032 br .int (3 : Int32) (fun _ => defaultValue .int) := Aw.new A1032 (by decide)
          refine go (T' := T1032) (g' := (mkF m 88 #[.val (.int p1), .val (.int p2), .val (.int p3), .val (.int p4), .val (.int p5), .val (.int p6), .val (.int k), .val (.int cr), .unset, .unset, .unset] [(.ref br)])) st1032 ?_
          refine go (T' := T1032) (g' := (mkF m 89 #[.val (.int p1), .val (.int p2), .val (.int p3), .val (.int p4), .val (.int p5), .val (.int p6), .val (.int k), .val (.int cr), .unset, .unset, .unset] [(.ref br), (.ref br)])) (fun t kt => XS.dup X1032.here hx rfl (hb hby at_88) rfl rfl kt) ?_
          refine go (T' := T1032) (g' := (mkF m 90 #[.val (.int p1), .val (.int p2), .val (.int p3), .val (.int p4), .val (.int p5), .val (.int p6), .val (.int k), .val (.int cr), .unset, .unset, .unset] [(.int (0 : Int32)), (.ref br), (.ref br)])) (fun t kt => XS.iconst X1032.here hx rfl (hb hby at_89) kt) ?_
          refine go (T' := T1032) (g' := (mkF m 91 #[.val (.int p1), .val (.int p2), .val (.int p3), .val (.int p4), .val (.int p5), .val (.int p6), .val (.int k), .val (.int cr), .unset, .unset, .unset] [(.int p2), (.int (0 : Int32)), (.ref br), (.ref br)])) (fun t kt => XS.iloadN X1032.here hx rfl (hb hby at_90) rfl kt) ?_
          obtain ⟨T1033, h1033, X1033, e1033, W1033, V1033, st1033⟩ := own_stI X1032 hx hZ e1032 V_br (j := (0 : Int32)) ⟨by decide, by decide⟩ (g := (mkF m 91 #[.val (.int p1), .val (.int p2), .val (.int p3), .val (.int p4), .val (.int p5), .val (.int p6), .val (.int k), .val (.int cr), .unset, .unset, .unset] [(.int p2), (.int (0 : Int32)), (.ref br), (.ref br)])) rfl rfl (hb hby at_91)
          have z1033 : n0 ≤ h1033.size := Nat.le_trans z1032 (Keep.of_wr W1033).1
          have fE_br_1033 : Exa Z h1033 br "[I" := B1032.wr W1033
          have N1033 := Fr.snoc X1033 N0 g_br
          refine go (T' := T1033) (g' := (mkF m 92 #[.val (.int p1), .val (.int p2), .val (.int p3), .val (.int p4), .val (.int p5), .val (.int p6), .val (.int k), .val (.int cr), .unset, .unset, .unset] [(.ref br)])) st1033 ?_
          refine go (T' := T1033) (g' := (mkF m 93 #[.val (.int p1), .val (.int p2), .val (.int p3), .val (.int p4), .val (.int p5), .val (.int p6), .val (.int k), .val (.int cr), .unset, .unset, .unset] [(.ref br), (.ref br)])) (fun t kt => XS.dup X1033.here hx rfl (hb hby at_92) rfl rfl kt) ?_
          refine go (T' := T1033) (g' := (mkF m 94 #[.val (.int p1), .val (.int p2), .val (.int p3), .val (.int p4), .val (.int p5), .val (.int p6), .val (.int k), .val (.int cr), .unset, .unset, .unset] [(.int (1 : Int32)), (.ref br), (.ref br)])) (fun t kt => XS.iconst X1033.here hx rfl (hb hby at_93) kt) ?_
          refine go (T' := T1033) (g' := (mkF m 95 #[.val (.int p1), .val (.int p2), .val (.int p3), .val (.int p4), .val (.int p5), .val (.int p6), .val (.int k), .val (.int cr), .unset, .unset, .unset] [(.int p3), (.int (1 : Int32)), (.ref br), (.ref br)])) (fun t kt => XS.iloadN X1033.here hx rfl (hb hby at_94) rfl kt) ?_
          obtain ⟨T1034, h1034, X1034, e1034, W1034, V1034, st1034⟩ := own_stI X1033 hx hZ e1033 V1033 (j := (1 : Int32)) ⟨by decide, by decide⟩ (g := (mkF m 95 #[.val (.int p1), .val (.int p2), .val (.int p3), .val (.int p4), .val (.int p5), .val (.int p6), .val (.int k), .val (.int cr), .unset, .unset, .unset] [(.int p3), (.int (1 : Int32)), (.ref br), (.ref br)])) rfl rfl (hb hby at_95)
          have z1034 : n0 ≤ h1034.size := Nat.le_trans z1033 (Keep.of_wr W1034).1
          have fE_br_1034 : Exa Z h1034 br "[I" := fE_br_1033.wr W1034
          have N1034 := Fr.snoc X1034 N1033 g_br
          refine go (T' := T1034) (g' := (mkF m 96 #[.val (.int p1), .val (.int p2), .val (.int p3), .val (.int p4), .val (.int p5), .val (.int p6), .val (.int k), .val (.int cr), .unset, .unset, .unset] [(.ref br)])) st1034 ?_
          refine go (T' := T1034) (g' := (mkF m 97 #[.val (.int p1), .val (.int p2), .val (.int p3), .val (.int p4), .val (.int p5), .val (.int p6), .val (.int k), .val (.int cr), .unset, .unset, .unset] [(.ref br), (.ref br)])) (fun t kt => XS.dup X1034.here hx rfl (hb hby at_96) rfl rfl kt) ?_
          refine go (T' := T1034) (g' := (mkF m 98 #[.val (.int p1), .val (.int p2), .val (.int p3), .val (.int p4), .val (.int p5), .val (.int p6), .val (.int k), .val (.int cr), .unset, .unset, .unset] [(.int (2 : Int32)), (.ref br), (.ref br)])) (fun t kt => XS.iconst X1034.here hx rfl (hb hby at_97) kt) ?_
          refine go (T' := T1034) (g' := (mkF m 99 #[.val (.int p1), .val (.int p2), .val (.int p3), .val (.int p4), .val (.int p5), .val (.int p6), .val (.int k), .val (.int cr), .unset, .unset, .unset] [(.int p4), (.int (2 : Int32)), (.ref br), (.ref br)])) (fun t kt => XS.iloadN X1034.here hx rfl (hb hby at_98) rfl kt) ?_
          obtain ⟨T1035, h1035, X1035, e1035, W1035, V1035, st1035⟩ := own_stI X1034 hx hZ e1034 V1034 (j := (2 : Int32)) ⟨by decide, by decide⟩ (g := (mkF m 99 #[.val (.int p1), .val (.int p2), .val (.int p3), .val (.int p4), .val (.int p5), .val (.int p6), .val (.int k), .val (.int cr), .unset, .unset, .unset] [(.int p4), (.int (2 : Int32)), (.ref br), (.ref br)])) rfl rfl (hb hby at_99)
          have z1035 : n0 ≤ h1035.size := Nat.le_trans z1034 (Keep.of_wr W1035).1
          have fE_br_1035 : Exa Z h1035 br "[I" := fE_br_1034.wr W1035
          have N1035 := Fr.snoc X1035 N1034 g_br
          refine go (T' := T1035) (g' := (mkF m 100 #[.val (.int p1), .val (.int p2), .val (.int p3), .val (.int p4), .val (.int p5), .val (.int p6), .val (.int k), .val (.int cr), .unset, .unset, .unset] [(.ref br)])) st1035 ?_
          refine go (T' := T1035) (g' := (mkF m 102 #[.val (.int p1), .val (.int p2), .val (.int p3), .val (.int p4), .val (.int p5), .val (.int p6), .val (.int k), .val (.int cr), .val (.ref br), .unset, .unset] [])) (fun t kt => XS.astore X1035.here hx rfl (hb hby at_100) rfl rfl (l' := #[.val (.int p1), .val (.int p2), .val (.int p3), .val (.int p4), .val (.int p5), .val (.int p6), .val (.int k), .val (.int cr), .val (.ref br), .unset, .unset]) rfl kt) ?_
          refine go (T' := T1035) (g' := (mkF m 103 #[.val (.int p1), .val (.int p2), .val (.int p3), .val (.int p4), .val (.int p5), .val (.int p6), .val (.int k), .val (.int cr), .val (.ref br), .unset, .unset] [(.int (2 : Int32))])) (fun t kt => XS.iconst X1035.here hx rfl (hb hby at_102) kt) ?_
          obtain ⟨T1036, h1036, kc1036, X1036, e1036, E1036, A1036, B1036, st1036⟩ := newPE X1035 hx hZ (hw _ (List.mem_of_getElem? (i := 1) rfl)) e1035 (g := (mkF m 103 #[.val (.int p1), .val (.int p2), .val (.int p3), .val (.int p4), .val (.int p5), .val (.int p6), .val (.int k), .val (.int cr), .val (.ref br), .unset, .unset] [(.int (2 : Int32))])) rfl (hb hby at_103) rfl (by decide) (cap := 2) (by decide) (by decide) (by decide) (by decide) (ad := "[I") (by decide +kernel)
          obtain ⟨bc, g1036⟩ : ∃ z, z = h1035.size := ⟨_, rfl⟩
          rw [← g1036] at A1036 B1036 st1036
          have ne_br_bc : br ≠ bc := Nat.ne_of_lt (Nat.lt_of_lt_of_le V1035.lt (Nat.le_of_eq g1036.symm))
          have g_bc : n0 ≤ bc := Nat.le_trans z1035 (Nat.le_of_eq g1036.symm)
          have z1036 : n0 ≤ h1036.size := Nat.le_trans z1035 E1036.1
          have fA_br_1036 : Aw Z h1036 br .int (3 : Int32) (upd (upd (upd (fun _ => defaultValue .int) ((0 : Int32)).toNatClampNeg (.int p2)) ((1 : Int32)).toNatClampNeg (.int p3)) ((2 : Int32)).toNatClampNeg (.int p4)) := V1035.ext E1036
          have fE_br_1036 : Exa Z h1036 br "[I" := fE_br_1035.ext E1036
          have V_bc : Aw Z h1036 bc .int (2 : Int32) (fun _ => defaultValue .int) := Aw.new A1036 (by decide)
          refine go (T' := T1036) (g' := (mkF m 105 #[.val (.int p1), .val (.int p2), .val (.int p3), .val (.int p4), .val (.int p5), .val (.int p6), .val (.int k), .val (.int cr), .val (.ref br), .unset, .unset] [(.ref bc)])) st1036 ?_
          refine go (T' := T1036) (g' := (mkF m 106 #[.val (.int p1), .val (.int p2), .val (.int p3), .val (.int p4), .val (.int p5), .val (.int p6), .val (.int k), .val (.int cr), .val (.ref br), .unset, .unset] [(.ref bc), (.ref bc)])) (fun t kt => XS.dup X1036.here hx rfl (hb hby at_105) rfl rfl kt) ?_
          refine go (T' := T1036) (g' := (mkF m 107 #[.val (.int p1), .val (.int p2), .val (.int p3), .val (.int p4), .val (.int p5), .val (.int p6), .val (.int k), .val (.int cr), .val (.ref br), .unset, .unset] [(.int (0 : Int32)), (.ref bc), (.ref bc)])) (fun t kt => XS.iconst X1036.here hx rfl (hb hby at_106) kt) ?_
          refine go (T' := T1036) (g' := (mkF m 109 #[.val (.int p1), .val (.int p2), .val (.int p3), .val (.int p4), .val (.int p5), .val (.int p6), .val (.int k), .val (.int cr), .val (.ref br), .unset, .unset] [(.int p5), (.int (0 : Int32)), (.ref bc), (.ref bc)])) (fun t kt => XS.iload X1036.here hx rfl (hb hby at_107) rfl kt) ?_
          obtain ⟨T1037, h1037, X1037, e1037, W1037, V1037, st1037⟩ := own_stI X1036 hx hZ e1036 V_bc (j := (0 : Int32)) ⟨by decide, by decide⟩ (g := (mkF m 109 #[.val (.int p1), .val (.int p2), .val (.int p3), .val (.int p4), .val (.int p5), .val (.int p6), .val (.int k), .val (.int cr), .val (.ref br), .unset, .unset] [(.int p5), (.int (0 : Int32)), (.ref bc), (.ref bc)])) rfl rfl (hb hby at_109)
          have z1037 : n0 ≤ h1037.size := Nat.le_trans z1036 (Keep.of_wr W1037).1
          have fA_br_1037 : Aw Z h1037 br .int (3 : Int32) (upd (upd (upd (fun _ => defaultValue .int) ((0 : Int32)).toNatClampNeg (.int p2)) ((1 : Int32)).toNatClampNeg (.int p3)) ((2 : Int32)).toNatClampNeg (.int p4)) := fA_br_1036.other W1037 ne_br_bc
          have fE_br_1037 : Exa Z h1037 br "[I" := fE_br_1036.wr W1037
          have fE_bc_1037 : Exa Z h1037 bc "[I" := B1036.wr W1037
          have N1037 := Fr.snoc X1037 N1035 g_bc
          refine go (T' := T1037) (g' := (mkF m 110 #[.val (.int p1), .val (.int p2), .val (.int p3), .val (.int p4), .val (.int p5), .val (.int p6), .val (.int k), .val (.int cr), .val (.ref br), .unset, .unset] [(.ref bc)])) st1037 ?_
          refine go (T' := T1037) (g' := (mkF m 111 #[.val (.int p1), .val (.int p2), .val (.int p3), .val (.int p4), .val (.int p5), .val (.int p6), .val (.int k), .val (.int cr), .val (.ref br), .unset, .unset] [(.ref bc), (.ref bc)])) (fun t kt => XS.dup X1037.here hx rfl (hb hby at_110) rfl rfl kt) ?_
          refine go (T' := T1037) (g' := (mkF m 112 #[.val (.int p1), .val (.int p2), .val (.int p3), .val (.int p4), .val (.int p5), .val (.int p6), .val (.int k), .val (.int cr), .val (.ref br), .unset, .unset] [(.int (1 : Int32)), (.ref bc), (.ref bc)])) (fun t kt => XS.iconst X1037.here hx rfl (hb hby at_111) kt) ?_
          refine go (T' := T1037) (g' := (mkF m 114 #[.val (.int p1), .val (.int p2), .val (.int p3), .val (.int p4), .val (.int p5), .val (.int p6), .val (.int k), .val (.int cr), .val (.ref br), .unset, .unset] [(.int p6), (.int (1 : Int32)), (.ref bc), (.ref bc)])) (fun t kt => XS.iload X1037.here hx rfl (hb hby at_112) rfl kt) ?_
          obtain ⟨T1038, h1038, X1038, e1038, W1038, V1038, st1038⟩ := own_stI X1037 hx hZ e1037 V1037 (j := (1 : Int32)) ⟨by decide, by decide⟩ (g := (mkF m 114 #[.val (.int p1), .val (.int p2), .val (.int p3), .val (.int p4), .val (.int p5), .val (.int p6), .val (.int k), .val (.int cr), .val (.ref br), .unset, .unset] [(.int p6), (.int (1 : Int32)), (.ref bc), (.ref bc)])) rfl rfl (hb hby at_114)
          have z1038 : n0 ≤ h1038.size := Nat.le_trans z1037 (Keep.of_wr W1038).1
          have fA_br_1038 : Aw Z h1038 br .int (3 : Int32) (upd (upd (upd (fun _ => defaultValue .int) ((0 : Int32)).toNatClampNeg (.int p2)) ((1 : Int32)).toNatClampNeg (.int p3)) ((2 : Int32)).toNatClampNeg (.int p4)) := fA_br_1037.other W1038 ne_br_bc
          have fE_br_1038 : Exa Z h1038 br "[I" := fE_br_1037.wr W1038
          have fE_bc_1038 : Exa Z h1038 bc "[I" := fE_bc_1037.wr W1038
          have N1038 := Fr.snoc X1038 N1037 g_bc
          refine go (T' := T1038) (g' := (mkF m 115 #[.val (.int p1), .val (.int p2), .val (.int p3), .val (.int p4), .val (.int p5), .val (.int p6), .val (.int k), .val (.int cr), .val (.ref br), .unset, .unset] [(.ref bc)])) st1038 ?_
          refine go (T' := T1038) (g' := (mkF m 117 #[.val (.int p1), .val (.int p2), .val (.int p3), .val (.int p4), .val (.int p5), .val (.int p6), .val (.int k), .val (.int cr), .val (.ref br), .val (.ref bc), .unset] [])) (fun t kt => XS.astore X1038.here hx rfl (hb hby at_115) rfl rfl (l' := #[.val (.int p1), .val (.int p2), .val (.int p3), .val (.int p4), .val (.int p5), .val (.int p6), .val (.int k), .val (.int cr), .val (.ref br), .val (.ref bc), .unset]) rfl kt) ?_
          refine go (T' := T1038) (g' := (mkF m 160 #[.val (.int p1), .val (.int p2), .val (.int p3), .val (.int p4), .val (.int p5), .val (.int p6), .val (.int k), .val (.int cr), .val (.ref br), .val (.ref bc), .unset] [])) (fun t kt => XS.goto X1038.here hx rfl (pc0 := 117) (pc' := 160) rfl (hb hby at_117) (by decide) (by decide) kt) ?_
          obtain ⟨T1039, h1039, X1039, e1039, E1039, A1039, D1039, -, st1039⟩ := newO X1038 hx hZ hown (hw _ (List.mem_of_getElem? (i := 2) rfl)) (hw _ (List.mem_of_getElem? (i := 3) rfl)) (hw _ (List.mem_of_getElem? (i := 4) rfl)) e1038 (g := (mkF m 160 #[.val (.int p1), .val (.int p2), .val (.int p3), .val (.int p4), .val (.int p5), .val (.int p6), .val (.int k), .val (.int cr), .val (.ref br), .val (.ref bc), .unset] [])) rfl (hb hby at_160) (by decide) (by decide)
          obtain ⟨bm, g1039⟩ : ∃ z, z = h1038.size := ⟨_, rfl⟩
          rw [← g1039] at A1039 D1039 st1039
          have ne_bc_bm : bc ≠ bm := Nat.ne_of_lt (Nat.lt_of_lt_of_le V1038.lt (Nat.le_of_eq g1039.symm))
          have ne_br_bm : br ≠ bm := Nat.ne_of_lt (Nat.lt_of_lt_of_le fA_br_1038.lt (Nat.le_of_eq g1039.symm))
          have g_bm : n0 ≤ bm := Nat.le_trans z1038 (Nat.le_of_eq g1039.symm)
          have z1039 : n0 ≤ h1039.size := Nat.le_trans z1038 E1039.1
          have fA_br_1039 : Aw Z h1039 br .int (3 : Int32) (upd (upd (upd (fun _ => defaultValue .int) ((0 : Int32)).toNatClampNeg (.int p2)) ((1 : Int32)).toNatClampNeg (.int p3)) ((2 : Int32)).toNatClampNeg (.int p4)) := fA_br_1038.ext E1039
          have fE_br_1039 : Exa Z h1039 br "[I" := fE_br_1038.ext E1039
          have fA_bc_1039 : Aw Z h1039 bc .int (2 : Int32) (upd (upd (fun _ => defaultValue .int) ((0 : Int32)).toNatClampNeg (.int p5)) ((1 : Int32)).toNatClampNeg (.int p6)) := V1038.ext E1039
          have fE_bc_1039 : Exa Z h1039 bc "[I" := fE_bc_1038.ext E1039
          have F_route_bm : Fld Z h1039 bm "com/example/damarium/damarium/position/Move" "route" "[I" .null := D1039 (Or.inr (hw _ (List.mem_of_getElem? (i := 21) rfl))) (ty := (.array .int)) (by decide)
          have F_captured_bm : Fld Z h1039 bm "com/example/damarium/damarium/position/Move" "captured" "[I" .null := D1039 (Or.inr (hw _ (List.mem_of_getElem? (i := 23) rfl))) (ty := (.array .int)) (by decide)
          have F_crowns_bm : Fld Z h1039 bm "com/example/damarium/damarium/position/Move" "crowns" "Z" (.int (0 : Int32)) := D1039 (Or.inr (hw _ (List.mem_of_getElem? (i := 25) rfl))) (ty := .boolean) (by decide)
          refine go (T' := T1039) (g' := (mkF m 163 #[.val (.int p1), .val (.int p2), .val (.int p3), .val (.int p4), .val (.int p5), .val (.int p6), .val (.int k), .val (.int cr), .val (.ref br), .val (.ref bc), .unset] [(.ref bm)])) st1039 ?_
          refine go (T' := T1039) (g' := (mkF m 164 #[.val (.int p1), .val (.int p2), .val (.int p3), .val (.int p4), .val (.int p5), .val (.int p6), .val (.int k), .val (.int cr), .val (.ref br), .val (.ref bc), .unset] [(.ref bm), (.ref bm)])) (fun t kt => XS.dup X1039.here hx rfl (hb hby at_163) rfl rfl kt) ?_
          refine go (T' := T1039) (g' := (mkF m 166 #[.val (.int p1), .val (.int p2), .val (.int p3), .val (.int p4), .val (.int p5), .val (.int p6), .val (.int k), .val (.int cr), .val (.ref br), .val (.ref bc), .unset] [(.ref br), (.ref bm), (.ref bm)])) (fun t kt => XS.aload X1039.here hx rfl (hb hby at_164) rfl rfl kt) ?_
          refine go (T' := T1039) (g' := (mkF m 168 #[.val (.int p1), .val (.int p2), .val (.int p3), .val (.int p4), .val (.int p5), .val (.int p6), .val (.int k), .val (.int cr), .val (.ref br), .val (.ref bc), .unset] [(.ref bc), (.ref br), (.ref bm), (.ref bm)])) (fun t kt => XS.aload X1039.here hx rfl (hb hby at_166) rfl rfl kt) ?_
          refine go (T' := T1039) (g' := (mkF m 170 #[.val (.int p1), .val (.int p2), .val (.int p3), .val (.int p4), .val (.int p5), .val (.int p6), .val (.int k), .val (.int cr), .val (.ref br), .val (.ref bc), .unset] [(.int cr), (.ref bc), (.ref br), (.ref bm), (.ref bm)])) (fun t kt => XS.iload X1039.here hx rfl (hb hby at_168) rfl kt) ?_
          obtain ⟨_, _, ⟨T1040, L1040, k1040, n1040⟩, -, X1040, ⟨Lc1040, hQ1040, l1040, y1040, z1040⟩, st1040⟩ := X1039.specialBack hx (y := (⟨"com/example/damarium/damarium/position/Move", "<init>", "([I[IZ)V"⟩ : MethodName)) rfl hown (mvT hZ (hw _ (List.mem_of_getElem? (i := 5) rfl))) (mvT hZ (hw _ (List.mem_of_getElem? (i := 6) rfl))) (mvT hZ (hw _ (List.mem_of_getElem? (i := 7) rfl))) (by decide) (backOf (W := 1) (rm1 l Z a0 hw [] bm br bc cr (3 : Int32) (2 : Int32) (upd (upd (upd (fun _ => defaultValue .int) ((0 : Int32)).toNatClampNeg (.int p2)) ((1 : Int32)).toNatClampNeg (.int p3)) ((2 : Int32)).toNatClampNeg (.int p4)) (upd (upd (fun _ => defaultValue .int) ((0 : Int32)).toNatClampNeg (.int p5)) ((1 : Int32)).toNatClampNeg (.int p6)) h1039 n0 z1039 g_bm A1039 F_route_bm F_captured_bm F_crowns_bm fA_br_1039 fE_br_1039 fA_bc_1039 fE_bc_1039 ne_br_bm ne_bc_bm (by decide) (by decide) (by decide)) hZ (hw _ (List.mem_of_getElem? (i := 7) rfl)) (hw _ (List.mem_of_getElem? (i := 4) rfl)) (by decide) (by decide)) (g := (mkF m 170 #[.val (.int p1), .val (.int p2), .val (.int p3), .val (.int p4), .val (.int p5), .val (.int p6), .val (.int k), .val (.int cr), .val (.ref br), .val (.ref bc), .unset] [(.int cr), (.ref bc), (.ref br), (.ref bm), (.ref bm)])) rfl (by rw [hml]; rfl) (Steps.refl _) (a := bm) (argsL := [(.ref br), (.ref bc), (.int cr)]) (rest := [(.ref bm)]) (lenOf pd_0 rfl) rfl (by show 2 * 0 + _ ≤ _; exact Nat.le_of_eq rfl) (hb hby at_170) (fun _ _ => ⟨rfl, e1039, (by decide : 3 + 2 ≤ _), (by decide : 8 + 8 ≤ _)⟩)
          dsimp only [Pt.U, Pt.locs, Pt.cells, Pt.slots] at X1040 l1040 y1040 z1040 st1040 hQ1040
          subst l1040 y1040 z1040
          obtain ⟨rfl, N1040q, K1040, bx, fx, Fx, Vx⟩ := hQ1040
          have N1040 := Fr.app N1038 N1040q
          refine goV (T' := T1040) (g' := (mkF m 173 #[.val (.int p1), .val (.int p2), .val (.int p3), .val (.int p4), .val (.int p5), .val (.int p6), .val (.int k), .val (.int cr), .val (.ref br), .val (.ref bc), .unset] [(.ref bm)])) st1040 ?_
          have z1040 : n0 ≤ T1040.heap.size := Nat.le_trans z1039 K1040.1
          have fE_bm_1040 : Exa Z T1040.heap bm "com/example/damarium/damarium/position/Move" := A1039.keep K1040
          refine go (T' := T1040) (g' := (mkF m 175 #[.val (.int p1), .val (.int p2), .val (.int p3), .val (.int p4), .val (.int p5), .val (.int p6), .val (.int k), .val (.int cr), .val (.ref br), .val (.ref bc), .val (.ref bm)] [])) (fun t kt => XS.astore X1040.here hx rfl (hb hby at_173) rfl rfl (l' := #[.val (.int p1), .val (.int p2), .val (.int p3), .val (.int p4), .val (.int p5), .val (.int p6), .val (.int k), .val (.int cr), .val (.ref br), .val (.ref bc), .val (.ref bm)]) rfl kt) ?_
          refine go (T' := T1040) (g' := (mkF m 177 #[.val (.int p1), .val (.int p2), .val (.int p3), .val (.int p4), .val (.int p5), .val (.int p6), .val (.int k), .val (.int cr), .val (.ref br), .val (.ref bc), .val (.ref bm)] [(.ref bm)])) (fun t kt => XS.aload X1040.here hx rfl (hb hby at_175) rfl rfl kt) ?_
          obtain ⟨cq1041, kq1041, q1041a, q1041b, q1041c⟩ := isOf hZ rfl fE_bm_1040
          obtain ⟨_, _, ⟨T1041, L1041, k1041, n1041⟩, -, X1041, ⟨Lc1041, hQ1041, l1041, y1041, z1041⟩, st1041⟩ := X1040.virtualBack hx (y := (⟨"com/example/damarium/damarium/position/Move", "isCapture", "()Z"⟩ : MethodName)) (z := (⟨"com/example/damarium/damarium/position/Move", "isCapture", "()Z"⟩ : MethodName)) hown (mvT hZ (hw _ (List.mem_of_getElem? (i := 26) rfl))) (mvT hZ (hw _ (List.mem_of_getElem? (i := 27) rfl))) (notFace_of_selects (args := #[]) (mvT hZ (hw _ (List.mem_of_getElem? (i := 29) rfl)))) (mvT hZ (hw _ (List.mem_of_getElem? (i := 29) rfl))) (mvT hZ (hw _ (List.mem_of_getElem? (i := 28) rfl))) (by decide) (backOf (W := 0) (rm3 l Z a0 hw [] bm bx (2 : Int32) fx T1040.heap n0 z1040 Fx Vx) hZ (hw _ (List.mem_of_getElem? (i := 30) rfl)) (hw _ (List.mem_of_getElem? (i := 4) rfl)) (by decide) (by decide)) q1041a q1041c (g := (mkF m 177 #[.val (.int p1), .val (.int p2), .val (.int p3), .val (.int p4), .val (.int p5), .val (.int p6), .val (.int k), .val (.int cr), .val (.ref br), .val (.ref bc), .val (.ref bm)] [(.ref bm)])) rfl (by rw [hml]; rfl) (Steps.refl _) (argsL := []) (rest := []) (lenOf pd_1 rfl) rfl (by show 2 * 0 + _ ≤ _; exact Nat.le_of_eq rfl) (hb hby at_177) (fun _ _ => ⟨rfl, rfl, (by decide : 5 + 0 ≤ _), (by decide : 16 + 0 ≤ _)⟩)
          dsimp only [Pt.U, Pt.locs, Pt.cells, Pt.slots] at X1041 l1041 y1041 z1041 st1041 hQ1041
          subst l1041 y1041 z1041
          obtain ⟨rfl, N1041q, e1041⟩ := hQ1041
          have N1041 := Fr.app N1040 N1041q
          refine goV (T' := T1041) (g' := (mkF m 180 #[.val (.int p1), .val (.int p2), .val (.int p3), .val (.int p4), .val (.int p5), .val (.int p6), .val (.int k), .val (.int cr), .val (.ref br), .val (.ref bc), .val (.ref bm)] [(.int (own_cap (2 : Int32)))])) st1041 ?_
          refine go (T' := T1041) (g' := (mkF m 182 #[.val (.int p1), .val (.int p2), .val (.int p3), .val (.int p4), .val (.int p5), .val (.int p6), .val (.int k), .val (.int cr), .val (.ref br), .val (.ref bc), .val (.ref bm)] [(.int k), (.int (own_cap (2 : Int32)))])) (fun t kt => XS.iload X1041.here hx rfl (hb hby at_180) rfl kt) ?_
          refine go (T' := T1041) (g' := (mkF m 185 #[.val (.int p1), .val (.int p2), .val (.int p3), .val (.int p4), .val (.int p5), .val (.int p6), .val (.int k), .val (.int cr), .val (.ref br), .val (.ref bc), .val (.ref bm)] [(.int (own_cap (2 : Int32)))])) (fun t kt => XS.ifNo X1041.here hx rfl (hb hby at_182) rfl ((if0 _ _).trans (feq hk0).1) kt) ?_
          refine go (T' := T1041) (g' := (mkF m 186 #[.val (.int p1), .val (.int p2), .val (.int p3), .val (.int p4), .val (.int p5), .val (.int p6), .val (.int k), .val (.int cr), .val (.ref br), .val (.ref bc), .val (.ref bm)] [(.int (1 : Int32)), (.int (own_cap (2 : Int32)))])) (fun t kt => XS.iconst X1041.here hx rfl (hb hby at_185) kt) ?_
          refine go (T' := T1041) (g' := (mkF m 190 #[.val (.int p1), .val (.int p2), .val (.int p3), .val (.int p4), .val (.int p5), .val (.int p6), .val (.int k), .val (.int cr), .val (.ref br), .val (.ref bc), .val (.ref bm)] [(.int (1 : Int32)), (.int (own_cap (2 : Int32)))])) (fun t kt => XS.goto X1041.here hx rfl (pc0 := 186) (pc' := 190) rfl (hb hby at_186) (by decide) (by decide) kt) ?_
          refine go (T' := T1041) (g' := (mkF m 193 #[.val (.int p1), .val (.int p2), .val (.int p3), .val (.int p4), .val (.int p5), .val (.int p6), .val (.int k), .val (.int cr), .val (.ref br), .val (.ref bc), .val (.ref bm)] [])) (fun t kt => XS.icmpNo X1041.here hx rfl (hb hby at_190) rfl (teq (by decide)).2 kt) ?_
          refine go (T' := T1041) (g' := (mkF m 194 #[.val (.int p1), .val (.int p2), .val (.int p3), .val (.int p4), .val (.int p5), .val (.int p6), .val (.int k), .val (.int cr), .val (.ref br), .val (.ref bc), .val (.ref bm)] [(.int (1 : Int32))])) (fun t kt => XS.iconst X1041.here hx rfl (hb hby at_193) kt) ?_
          refine go (T' := T1041) (g' := (mkF m 198 #[.val (.int p1), .val (.int p2), .val (.int p3), .val (.int p4), .val (.int p5), .val (.int p6), .val (.int k), .val (.int cr), .val (.ref br), .val (.ref bc), .val (.ref bm)] [(.int (1 : Int32))])) (fun t kt => XS.goto X1041.here hx rfl (pc0 := 194) (pc' := 198) rfl (hb hby at_194) (by decide) (by decide) kt) ?_
          refine goRetN X1041 hx hlk (t := .boolean) Bd.returns (by simp) (hb hby at_198) ?_ (by decide) (by decide)
          rw [e1041]
          exact ⟨rfl, N1041⟩
        · refine go (T' := s₁) (g' := (mkF m 120 #[.val (.int p1), .val (.int p2), .val (.int p3), .val (.int p4), .val (.int p5), .val (.int p6), .val (.int k), .val (.int cr), .unset, .unset, .unset] [])) (fun t kt => XS.icmpYes X0.here hx rfl (pc0 := 82) (pc' := 120) rfl (hb hby at_82) rfl (feq hk2).2 (by decide) (by decide) kt) ?_
          refine go (T' := s₁) (g' := (mkF m 121 #[.val (.int p1), .val (.int p2), .val (.int p3), .val (.int p4), .val (.int p5), .val (.int p6), .val (.int k), .val (.int cr), .unset, .unset, .unset] [(.int (4 : Int32))])) (fun t kt => XS.iconst X0.here hx rfl (hb hby at_120) kt) ?_
          obtain ⟨T1042, h1042, kc1042, X1042, e1042, E1042, A1042, B1042, st1042⟩ := newPE X0 hx hZ (hw _ (List.mem_of_getElem? (i := 1) rfl)) e0 (g := (mkF m 121 #[.val (.int p1), .val (.int p2), .val (.int p3), .val (.int p4), .val (.int p5), .val (.int p6), .val (.int k), .val (.int cr), .unset, .unset, .unset] [(.int (4 : Int32))])) rfl (hb hby at_121) rfl (by decide) (cap := 4) (by decide) (by decide) (by decide) (by decide) (ad := "[I") (by decide +kernel)
          obtain ⟨br, g1042⟩ : ∃ z, z = h0.size := ⟨_, rfl⟩
          rw [← g1042] at A1042 B1042 st1042
          have g_br : n0 ≤ br := Nat.le_trans Z0 (Nat.le_of_eq g1042.symm)
          have z1042 : n0 ≤ h1042.size := Nat.le_trans Z0 E1042.1
          have V_br : Aw Z h1042 br .int (4 : Int32) (fun _ => defaultValue .int) := Aw.new A1042 (by decide)
          refine go (T' := T1042) (g' := (mkF m 123 #[.val (.int p1), .val (.int p2), .val (.int p3), .val (.int p4), .val (.int p5), .val (.int p6), .val (.int k), .val (.int cr), .unset, .unset, .unset] [(.ref br)])) st1042 ?_
          refine go (T' := T1042) (g' := (mkF m 124 #[.val (.int p1), .val (.int p2), .val (.int p3), .val (.int p4), .val (.int p5), .val (.int p6), .val (.int k), .val (.int cr), .unset, .unset, .unset] [(.ref br), (.ref br)])) (fun t kt => XS.dup X1042.here hx rfl (hb hby at_123) rfl rfl kt) ?_
          refine go (T' := T1042) (g' := (mkF m 125 #[.val (.int p1), .val (.int p2), .val (.int p3), .val (.int p4), .val (.int p5), .val (.int p6), .val (.int k), .val (.int cr), .unset, .unset, .unset] [(.int (0 : Int32)), (.ref br), (.ref br)])) (fun t kt => XS.iconst X1042.here hx rfl (hb hby at_124) kt) ?_
          refine go (T' := T1042) (g' := (mkF m 126 #[.val (.int p1), .val (.int p2), .val (.int p3), .val (.int p4), .val (.int p5), .val (.int p6), .val (.int k), .val (.int cr), .unset, .unset, .unset] [(.int p2), (.int (0 : Int32)), (.ref br), (.ref br)])) (fun t kt => XS.iloadN X1042.here hx rfl (hb hby at_125) rfl kt) ?_
          obtain ⟨T1043, h1043, X1043, e1043, W1043, V1043, st1043⟩ := own_stI X1042 hx hZ e1042 V_br (j := (0 : Int32)) ⟨by decide, by decide⟩ (g := (mkF m 126 #[.val (.int p1), .val (.int p2), .val (.int p3), .val (.int p4), .val (.int p5), .val (.int p6), .val (.int k), .val (.int cr), .unset, .unset, .unset] [(.int p2), (.int (0 : Int32)), (.ref br), (.ref br)])) rfl rfl (hb hby at_126)
          have z1043 : n0 ≤ h1043.size := Nat.le_trans z1042 (Keep.of_wr W1043).1
          have fE_br_1043 : Exa Z h1043 br "[I" := B1042.wr W1043
          have N1043 := Fr.snoc X1043 N0 g_br
          refine go (T' := T1043) (g' := (mkF m 127 #[.val (.int p1), .val (.int p2), .val (.int p3), .val (.int p4), .val (.int p5), .val (.int p6), .val (.int k), .val (.int cr), .unset, .unset, .unset] [(.ref br)])) st1043 ?_
          refine go (T' := T1043) (g' := (mkF m 128 #[.val (.int p1), .val (.int p2), .val (.int p3), .val (.int p4), .val (.int p5), .val (.int p6), .val (.int k), .val (.int cr), .unset, .unset, .unset] [(.ref br), (.ref br)])) (fun t kt => XS.dup X1043.here hx rfl (hb hby at_127) rfl rfl kt) ?_
          refine go (T' := T1043) (g' := (mkF m 129 #[.val (.int p1), .val (.int p2), .val (.int p3), .val (.int p4), .val (.int p5), .val (.int p6), .val (.int k), .val (.int cr), .unset, .unset, .unset] [(.int (1 : Int32)), (.ref br), (.ref br)])) (fun t kt => XS.iconst X1043.here hx rfl (hb hby at_128) kt) ?_
          refine go (T' := T1043) (g' := (mkF m 130 #[.val (.int p1), .val (.int p2), .val (.int p3), .val (.int p4), .val (.int p5), .val (.int p6), .val (.int k), .val (.int cr), .unset, .unset, .unset] [(.int p3), (.int (1 : Int32)), (.ref br), (.ref br)])) (fun t kt => XS.iloadN X1043.here hx rfl (hb hby at_129) rfl kt) ?_
          obtain ⟨T1044, h1044, X1044, e1044, W1044, V1044, st1044⟩ := own_stI X1043 hx hZ e1043 V1043 (j := (1 : Int32)) ⟨by decide, by decide⟩ (g := (mkF m 130 #[.val (.int p1), .val (.int p2), .val (.int p3), .val (.int p4), .val (.int p5), .val (.int p6), .val (.int k), .val (.int cr), .unset, .unset, .unset] [(.int p3), (.int (1 : Int32)), (.ref br), (.ref br)])) rfl rfl (hb hby at_130)
          have z1044 : n0 ≤ h1044.size := Nat.le_trans z1043 (Keep.of_wr W1044).1
          have fE_br_1044 : Exa Z h1044 br "[I" := fE_br_1043.wr W1044
          have N1044 := Fr.snoc X1044 N1043 g_br
          refine go (T' := T1044) (g' := (mkF m 131 #[.val (.int p1), .val (.int p2), .val (.int p3), .val (.int p4), .val (.int p5), .val (.int p6), .val (.int k), .val (.int cr), .unset, .unset, .unset] [(.ref br)])) st1044 ?_
          refine go (T' := T1044) (g' := (mkF m 132 #[.val (.int p1), .val (.int p2), .val (.int p3), .val (.int p4), .val (.int p5), .val (.int p6), .val (.int k), .val (.int cr), .unset, .unset, .unset] [(.ref br), (.ref br)])) (fun t kt => XS.dup X1044.here hx rfl (hb hby at_131) rfl rfl kt) ?_
          refine go (T' := T1044) (g' := (mkF m 133 #[.val (.int p1), .val (.int p2), .val (.int p3), .val (.int p4), .val (.int p5), .val (.int p6), .val (.int k), .val (.int cr), .unset, .unset, .unset] [(.int (2 : Int32)), (.ref br), (.ref br)])) (fun t kt => XS.iconst X1044.here hx rfl (hb hby at_132) kt) ?_
          refine go (T' := T1044) (g' := (mkF m 134 #[.val (.int p1), .val (.int p2), .val (.int p3), .val (.int p4), .val (.int p5), .val (.int p6), .val (.int k), .val (.int cr), .unset, .unset, .unset] [(.int p4), (.int (2 : Int32)), (.ref br), (.ref br)])) (fun t kt => XS.iloadN X1044.here hx rfl (hb hby at_133) rfl kt) ?_
          obtain ⟨T1045, h1045, X1045, e1045, W1045, V1045, st1045⟩ := own_stI X1044 hx hZ e1044 V1044 (j := (2 : Int32)) ⟨by decide, by decide⟩ (g := (mkF m 134 #[.val (.int p1), .val (.int p2), .val (.int p3), .val (.int p4), .val (.int p5), .val (.int p6), .val (.int k), .val (.int cr), .unset, .unset, .unset] [(.int p4), (.int (2 : Int32)), (.ref br), (.ref br)])) rfl rfl (hb hby at_134)
          have z1045 : n0 ≤ h1045.size := Nat.le_trans z1044 (Keep.of_wr W1045).1
          have fE_br_1045 : Exa Z h1045 br "[I" := fE_br_1044.wr W1045
          have N1045 := Fr.snoc X1045 N1044 g_br
          refine go (T' := T1045) (g' := (mkF m 135 #[.val (.int p1), .val (.int p2), .val (.int p3), .val (.int p4), .val (.int p5), .val (.int p6), .val (.int k), .val (.int cr), .unset, .unset, .unset] [(.ref br)])) st1045 ?_
          refine go (T' := T1045) (g' := (mkF m 136 #[.val (.int p1), .val (.int p2), .val (.int p3), .val (.int p4), .val (.int p5), .val (.int p6), .val (.int k), .val (.int cr), .unset, .unset, .unset] [(.ref br), (.ref br)])) (fun t kt => XS.dup X1045.here hx rfl (hb hby at_135) rfl rfl kt) ?_
          refine go (T' := T1045) (g' := (mkF m 137 #[.val (.int p1), .val (.int p2), .val (.int p3), .val (.int p4), .val (.int p5), .val (.int p6), .val (.int k), .val (.int cr), .unset, .unset, .unset] [(.int (3 : Int32)), (.ref br), (.ref br)])) (fun t kt => XS.iconst X1045.here hx rfl (hb hby at_136) kt) ?_
          refine go (T' := T1045) (g' := (mkF m 139 #[.val (.int p1), .val (.int p2), .val (.int p3), .val (.int p4), .val (.int p5), .val (.int p6), .val (.int k), .val (.int cr), .unset, .unset, .unset] [(.int p5), (.int (3 : Int32)), (.ref br), (.ref br)])) (fun t kt => XS.iload X1045.here hx rfl (hb hby at_137) rfl kt) ?_
          obtain ⟨T1046, h1046, X1046, e1046, W1046, V1046, st1046⟩ := own_stI X1045 hx hZ e1045 V1045 (j := (3 : Int32)) ⟨by decide, by decide⟩ (g := (mkF m 139 #[.val (.int p1), .val (.int p2), .val (.int p3), .val (.int p4), .val (.int p5), .val (.int p6), .val (.int k), .val (.int cr), .unset, .unset, .unset] [(.int p5), (.int (3 : Int32)), (.ref br), (.ref br)])) rfl rfl (hb hby at_139)
          have z1046 : n0 ≤ h1046.size := Nat.le_trans z1045 (Keep.of_wr W1046).1
          have fE_br_1046 : Exa Z h1046 br "[I" := fE_br_1045.wr W1046
          have N1046 := Fr.snoc X1046 N1045 g_br
          refine go (T' := T1046) (g' := (mkF m 140 #[.val (.int p1), .val (.int p2), .val (.int p3), .val (.int p4), .val (.int p5), .val (.int p6), .val (.int k), .val (.int cr), .unset, .unset, .unset] [(.ref br)])) st1046 ?_
          refine go (T' := T1046) (g' := (mkF m 142 #[.val (.int p1), .val (.int p2), .val (.int p3), .val (.int p4), .val (.int p5), .val (.int p6), .val (.int k), .val (.int cr), .val (.ref br), .unset, .unset] [])) (fun t kt => XS.astore X1046.here hx rfl (hb hby at_140) rfl rfl (l' := #[.val (.int p1), .val (.int p2), .val (.int p3), .val (.int p4), .val (.int p5), .val (.int p6), .val (.int k), .val (.int cr), .val (.ref br), .unset, .unset]) rfl kt) ?_
          refine go (T' := T1046) (g' := (mkF m 143 #[.val (.int p1), .val (.int p2), .val (.int p3), .val (.int p4), .val (.int p5), .val (.int p6), .val (.int k), .val (.int cr), .val (.ref br), .unset, .unset] [(.int (3 : Int32))])) (fun t kt => XS.iconst X1046.here hx rfl (hb hby at_142) kt) ?_
          obtain ⟨T1047, h1047, kc1047, X1047, e1047, E1047, A1047, B1047, st1047⟩ := newPE X1046 hx hZ (hw _ (List.mem_of_getElem? (i := 1) rfl)) e1046 (g := (mkF m 143 #[.val (.int p1), .val (.int p2), .val (.int p3), .val (.int p4), .val (.int p5), .val (.int p6), .val (.int k), .val (.int cr), .val (.ref br), .unset, .unset] [(.int (3 : Int32))])) rfl (hb hby at_143) rfl (by decide) (cap := 3) (by decide) (by decide) (by decide) (by decide) (ad := "[I") (by decide +kernel)
          obtain ⟨bc, g1047⟩ : ∃ z, z = h1046.size := ⟨_, rfl⟩
          rw [← g1047] at A1047 B1047 st1047
          have ne_br_bc : br ≠ bc := Nat.ne_of_lt (Nat.lt_of_lt_of_le V1046.lt (Nat.le_of_eq g1047.symm))
          have g_bc : n0 ≤ bc := Nat.le_trans z1046 (Nat.le_of_eq g1047.symm)
          have z1047 : n0 ≤ h1047.size := Nat.le_trans z1046 E1047.1
          have fA_br_1047 : Aw Z h1047 br .int (4 : Int32) (upd (upd (upd (upd (fun _ => defaultValue .int) ((0 : Int32)).toNatClampNeg (.int p2)) ((1 : Int32)).toNatClampNeg (.int p3)) ((2 : Int32)).toNatClampNeg (.int p4)) ((3 : Int32)).toNatClampNeg (.int p5)) := V1046.ext E1047
          have fE_br_1047 : Exa Z h1047 br "[I" := fE_br_1046.ext E1047
          have V_bc : Aw Z h1047 bc .int (3 : Int32) (fun _ => defaultValue .int) := Aw.new A1047 (by decide)
          refine go (T' := T1047) (g' := (mkF m 145 #[.val (.int p1), .val (.int p2), .val (.int p3), .val (.int p4), .val (.int p5), .val (.int p6), .val (.int k), .val (.int cr), .val (.ref br), .unset, .unset] [(.ref bc)])) st1047 ?_
          refine go (T' := T1047) (g' := (mkF m 146 #[.val (.int p1), .val (.int p2), .val (.int p3), .val (.int p4), .val (.int p5), .val (.int p6), .val (.int k), .val (.int cr), .val (.ref br), .unset, .unset] [(.ref bc), (.ref bc)])) (fun t kt => XS.dup X1047.here hx rfl (hb hby at_145) rfl rfl kt) ?_
          refine go (T' := T1047) (g' := (mkF m 147 #[.val (.int p1), .val (.int p2), .val (.int p3), .val (.int p4), .val (.int p5), .val (.int p6), .val (.int k), .val (.int cr), .val (.ref br), .unset, .unset] [(.int (0 : Int32)), (.ref bc), (.ref bc)])) (fun t kt => XS.iconst X1047.here hx rfl (hb hby at_146) kt) ?_
          refine go (T' := T1047) (g' := (mkF m 149 #[.val (.int p1), .val (.int p2), .val (.int p3), .val (.int p4), .val (.int p5), .val (.int p6), .val (.int k), .val (.int cr), .val (.ref br), .unset, .unset] [(.int p6), (.int (0 : Int32)), (.ref bc), (.ref bc)])) (fun t kt => XS.iload X1047.here hx rfl (hb hby at_147) rfl kt) ?_
          obtain ⟨T1048, h1048, X1048, e1048, W1048, V1048, st1048⟩ := own_stI X1047 hx hZ e1047 V_bc (j := (0 : Int32)) ⟨by decide, by decide⟩ (g := (mkF m 149 #[.val (.int p1), .val (.int p2), .val (.int p3), .val (.int p4), .val (.int p5), .val (.int p6), .val (.int k), .val (.int cr), .val (.ref br), .unset, .unset] [(.int p6), (.int (0 : Int32)), (.ref bc), (.ref bc)])) rfl rfl (hb hby at_149)
          have z1048 : n0 ≤ h1048.size := Nat.le_trans z1047 (Keep.of_wr W1048).1
          have fA_br_1048 : Aw Z h1048 br .int (4 : Int32) (upd (upd (upd (upd (fun _ => defaultValue .int) ((0 : Int32)).toNatClampNeg (.int p2)) ((1 : Int32)).toNatClampNeg (.int p3)) ((2 : Int32)).toNatClampNeg (.int p4)) ((3 : Int32)).toNatClampNeg (.int p5)) := fA_br_1047.other W1048 ne_br_bc
          have fE_br_1048 : Exa Z h1048 br "[I" := fE_br_1047.wr W1048
          have fE_bc_1048 : Exa Z h1048 bc "[I" := B1047.wr W1048
          have N1048 := Fr.snoc X1048 N1046 g_bc
          refine go (T' := T1048) (g' := (mkF m 150 #[.val (.int p1), .val (.int p2), .val (.int p3), .val (.int p4), .val (.int p5), .val (.int p6), .val (.int k), .val (.int cr), .val (.ref br), .unset, .unset] [(.ref bc)])) st1048 ?_
          refine go (T' := T1048) (g' := (mkF m 151 #[.val (.int p1), .val (.int p2), .val (.int p3), .val (.int p4), .val (.int p5), .val (.int p6), .val (.int k), .val (.int cr), .val (.ref br), .unset, .unset] [(.ref bc), (.ref bc)])) (fun t kt => XS.dup X1048.here hx rfl (hb hby at_150) rfl rfl kt) ?_
          refine go (T' := T1048) (g' := (mkF m 152 #[.val (.int p1), .val (.int p2), .val (.int p3), .val (.int p4), .val (.int p5), .val (.int p6), .val (.int k), .val (.int cr), .val (.ref br), .unset, .unset] [(.int (1 : Int32)), (.ref bc), (.ref bc)])) (fun t kt => XS.iconst X1048.here hx rfl (hb hby at_151) kt) ?_
          refine go (T' := T1048) (g' := (mkF m 153 #[.val (.int p1), .val (.int p2), .val (.int p3), .val (.int p4), .val (.int p5), .val (.int p6), .val (.int k), .val (.int cr), .val (.ref br), .unset, .unset] [(.int p1), (.int (1 : Int32)), (.ref bc), (.ref bc)])) (fun t kt => XS.iloadN X1048.here hx rfl (hb hby at_152) rfl kt) ?_
          obtain ⟨T1049, h1049, X1049, e1049, W1049, V1049, st1049⟩ := own_stI X1048 hx hZ e1048 V1048 (j := (1 : Int32)) ⟨by decide, by decide⟩ (g := (mkF m 153 #[.val (.int p1), .val (.int p2), .val (.int p3), .val (.int p4), .val (.int p5), .val (.int p6), .val (.int k), .val (.int cr), .val (.ref br), .unset, .unset] [(.int p1), (.int (1 : Int32)), (.ref bc), (.ref bc)])) rfl rfl (hb hby at_153)
          have z1049 : n0 ≤ h1049.size := Nat.le_trans z1048 (Keep.of_wr W1049).1
          have fA_br_1049 : Aw Z h1049 br .int (4 : Int32) (upd (upd (upd (upd (fun _ => defaultValue .int) ((0 : Int32)).toNatClampNeg (.int p2)) ((1 : Int32)).toNatClampNeg (.int p3)) ((2 : Int32)).toNatClampNeg (.int p4)) ((3 : Int32)).toNatClampNeg (.int p5)) := fA_br_1048.other W1049 ne_br_bc
          have fE_br_1049 : Exa Z h1049 br "[I" := fE_br_1048.wr W1049
          have fE_bc_1049 : Exa Z h1049 bc "[I" := fE_bc_1048.wr W1049
          have N1049 := Fr.snoc X1049 N1048 g_bc
          refine go (T' := T1049) (g' := (mkF m 154 #[.val (.int p1), .val (.int p2), .val (.int p3), .val (.int p4), .val (.int p5), .val (.int p6), .val (.int k), .val (.int cr), .val (.ref br), .unset, .unset] [(.ref bc)])) st1049 ?_
          refine go (T' := T1049) (g' := (mkF m 155 #[.val (.int p1), .val (.int p2), .val (.int p3), .val (.int p4), .val (.int p5), .val (.int p6), .val (.int k), .val (.int cr), .val (.ref br), .unset, .unset] [(.ref bc), (.ref bc)])) (fun t kt => XS.dup X1049.here hx rfl (hb hby at_154) rfl rfl kt) ?_
          refine go (T' := T1049) (g' := (mkF m 156 #[.val (.int p1), .val (.int p2), .val (.int p3), .val (.int p4), .val (.int p5), .val (.int p6), .val (.int k), .val (.int cr), .val (.ref br), .unset, .unset] [(.int (2 : Int32)), (.ref bc), (.ref bc)])) (fun t kt => XS.iconst X1049.here hx rfl (hb hby at_155) kt) ?_
          refine go (T' := T1049) (g' := (mkF m 157 #[.val (.int p1), .val (.int p2), .val (.int p3), .val (.int p4), .val (.int p5), .val (.int p6), .val (.int k), .val (.int cr), .val (.ref br), .unset, .unset] [(.int p2), (.int (2 : Int32)), (.ref bc), (.ref bc)])) (fun t kt => XS.iloadN X1049.here hx rfl (hb hby at_156) rfl kt) ?_
          obtain ⟨T1050, h1050, X1050, e1050, W1050, V1050, st1050⟩ := own_stI X1049 hx hZ e1049 V1049 (j := (2 : Int32)) ⟨by decide, by decide⟩ (g := (mkF m 157 #[.val (.int p1), .val (.int p2), .val (.int p3), .val (.int p4), .val (.int p5), .val (.int p6), .val (.int k), .val (.int cr), .val (.ref br), .unset, .unset] [(.int p2), (.int (2 : Int32)), (.ref bc), (.ref bc)])) rfl rfl (hb hby at_157)
          have z1050 : n0 ≤ h1050.size := Nat.le_trans z1049 (Keep.of_wr W1050).1
          have fA_br_1050 : Aw Z h1050 br .int (4 : Int32) (upd (upd (upd (upd (fun _ => defaultValue .int) ((0 : Int32)).toNatClampNeg (.int p2)) ((1 : Int32)).toNatClampNeg (.int p3)) ((2 : Int32)).toNatClampNeg (.int p4)) ((3 : Int32)).toNatClampNeg (.int p5)) := fA_br_1049.other W1050 ne_br_bc
          have fE_br_1050 : Exa Z h1050 br "[I" := fE_br_1049.wr W1050
          have fE_bc_1050 : Exa Z h1050 bc "[I" := fE_bc_1049.wr W1050
          have N1050 := Fr.snoc X1050 N1049 g_bc
          refine go (T' := T1050) (g' := (mkF m 158 #[.val (.int p1), .val (.int p2), .val (.int p3), .val (.int p4), .val (.int p5), .val (.int p6), .val (.int k), .val (.int cr), .val (.ref br), .unset, .unset] [(.ref bc)])) st1050 ?_
          refine go (T' := T1050) (g' := (mkF m 160 #[.val (.int p1), .val (.int p2), .val (.int p3), .val (.int p4), .val (.int p5), .val (.int p6), .val (.int k), .val (.int cr), .val (.ref br), .val (.ref bc), .unset] [])) (fun t kt => XS.astore X1050.here hx rfl (hb hby at_158) rfl rfl (l' := #[.val (.int p1), .val (.int p2), .val (.int p3), .val (.int p4), .val (.int p5), .val (.int p6), .val (.int k), .val (.int cr), .val (.ref br), .val (.ref bc), .unset]) rfl kt) ?_
          obtain ⟨T1051, h1051, X1051, e1051, E1051, A1051, D1051, -, st1051⟩ := newO X1050 hx hZ hown (hw _ (List.mem_of_getElem? (i := 2) rfl)) (hw _ (List.mem_of_getElem? (i := 3) rfl)) (hw _ (List.mem_of_getElem? (i := 4) rfl)) e1050 (g := (mkF m 160 #[.val (.int p1), .val (.int p2), .val (.int p3), .val (.int p4), .val (.int p5), .val (.int p6), .val (.int k), .val (.int cr), .val (.ref br), .val (.ref bc), .unset] [])) rfl (hb hby at_160) (by decide) (by decide)
          obtain ⟨bm, g1051⟩ : ∃ z, z = h1050.size := ⟨_, rfl⟩
          rw [← g1051] at A1051 D1051 st1051
          have ne_bc_bm : bc ≠ bm := Nat.ne_of_lt (Nat.lt_of_lt_of_le V1050.lt (Nat.le_of_eq g1051.symm))
          have ne_br_bm : br ≠ bm := Nat.ne_of_lt (Nat.lt_of_lt_of_le fA_br_1050.lt (Nat.le_of_eq g1051.symm))
          have g_bm : n0 ≤ bm := Nat.le_trans z1050 (Nat.le_of_eq g1051.symm)
          have z1051 : n0 ≤ h1051.size := Nat.le_trans z1050 E1051.1
          have fA_br_1051 : Aw Z h1051 br .int (4 : Int32) (upd (upd (upd (upd (fun _ => defaultValue .int) ((0 : Int32)).toNatClampNeg (.int p2)) ((1 : Int32)).toNatClampNeg (.int p3)) ((2 : Int32)).toNatClampNeg (.int p4)) ((3 : Int32)).toNatClampNeg (.int p5)) := fA_br_1050.ext E1051
          have fE_br_1051 : Exa Z h1051 br "[I" := fE_br_1050.ext E1051
          have fA_bc_1051 : Aw Z h1051 bc .int (3 : Int32) (upd (upd (upd (fun _ => defaultValue .int) ((0 : Int32)).toNatClampNeg (.int p6)) ((1 : Int32)).toNatClampNeg (.int p1)) ((2 : Int32)).toNatClampNeg (.int p2)) := V1050.ext E1051
          have fE_bc_1051 : Exa Z h1051 bc "[I" := fE_bc_1050.ext E1051
          have F_route_bm : Fld Z h1051 bm "com/example/damarium/damarium/position/Move" "route" "[I" .null := D1051 (Or.inr (hw _ (List.mem_of_getElem? (i := 21) rfl))) (ty := (.array .int)) (by decide)
          have F_captured_bm : Fld Z h1051 bm "com/example/damarium/damarium/position/Move" "captured" "[I" .null := D1051 (Or.inr (hw _ (List.mem_of_getElem? (i := 23) rfl))) (ty := (.array .int)) (by decide)
          have F_crowns_bm : Fld Z h1051 bm "com/example/damarium/damarium/position/Move" "crowns" "Z" (.int (0 : Int32)) := D1051 (Or.inr (hw _ (List.mem_of_getElem? (i := 25) rfl))) (ty := .boolean) (by decide)
          refine go (T' := T1051) (g' := (mkF m 163 #[.val (.int p1), .val (.int p2), .val (.int p3), .val (.int p4), .val (.int p5), .val (.int p6), .val (.int k), .val (.int cr), .val (.ref br), .val (.ref bc), .unset] [(.ref bm)])) st1051 ?_
          refine go (T' := T1051) (g' := (mkF m 164 #[.val (.int p1), .val (.int p2), .val (.int p3), .val (.int p4), .val (.int p5), .val (.int p6), .val (.int k), .val (.int cr), .val (.ref br), .val (.ref bc), .unset] [(.ref bm), (.ref bm)])) (fun t kt => XS.dup X1051.here hx rfl (hb hby at_163) rfl rfl kt) ?_
          refine go (T' := T1051) (g' := (mkF m 166 #[.val (.int p1), .val (.int p2), .val (.int p3), .val (.int p4), .val (.int p5), .val (.int p6), .val (.int k), .val (.int cr), .val (.ref br), .val (.ref bc), .unset] [(.ref br), (.ref bm), (.ref bm)])) (fun t kt => XS.aload X1051.here hx rfl (hb hby at_164) rfl rfl kt) ?_
          refine go (T' := T1051) (g' := (mkF m 168 #[.val (.int p1), .val (.int p2), .val (.int p3), .val (.int p4), .val (.int p5), .val (.int p6), .val (.int k), .val (.int cr), .val (.ref br), .val (.ref bc), .unset] [(.ref bc), (.ref br), (.ref bm), (.ref bm)])) (fun t kt => XS.aload X1051.here hx rfl (hb hby at_166) rfl rfl kt) ?_
          refine go (T' := T1051) (g' := (mkF m 170 #[.val (.int p1), .val (.int p2), .val (.int p3), .val (.int p4), .val (.int p5), .val (.int p6), .val (.int k), .val (.int cr), .val (.ref br), .val (.ref bc), .unset] [(.int cr), (.ref bc), (.ref br), (.ref bm), (.ref bm)])) (fun t kt => XS.iload X1051.here hx rfl (hb hby at_168) rfl kt) ?_
          obtain ⟨_, _, ⟨T1052, L1052, k1052, n1052⟩, -, X1052, ⟨Lc1052, hQ1052, l1052, y1052, z1052⟩, st1052⟩ := X1051.specialBack hx (y := (⟨"com/example/damarium/damarium/position/Move", "<init>", "([I[IZ)V"⟩ : MethodName)) rfl hown (mvT hZ (hw _ (List.mem_of_getElem? (i := 5) rfl))) (mvT hZ (hw _ (List.mem_of_getElem? (i := 6) rfl))) (mvT hZ (hw _ (List.mem_of_getElem? (i := 7) rfl))) (by decide) (backOf (W := 1) (rm1 l Z a0 hw [] bm br bc cr (4 : Int32) (3 : Int32) (upd (upd (upd (upd (fun _ => defaultValue .int) ((0 : Int32)).toNatClampNeg (.int p2)) ((1 : Int32)).toNatClampNeg (.int p3)) ((2 : Int32)).toNatClampNeg (.int p4)) ((3 : Int32)).toNatClampNeg (.int p5)) (upd (upd (upd (fun _ => defaultValue .int) ((0 : Int32)).toNatClampNeg (.int p6)) ((1 : Int32)).toNatClampNeg (.int p1)) ((2 : Int32)).toNatClampNeg (.int p2)) h1051 n0 z1051 g_bm A1051 F_route_bm F_captured_bm F_crowns_bm fA_br_1051 fE_br_1051 fA_bc_1051 fE_bc_1051 ne_br_bm ne_bc_bm (by decide) (by decide) (by decide)) hZ (hw _ (List.mem_of_getElem? (i := 7) rfl)) (hw _ (List.mem_of_getElem? (i := 4) rfl)) (by decide) (by decide)) (g := (mkF m 170 #[.val (.int p1), .val (.int p2), .val (.int p3), .val (.int p4), .val (.int p5), .val (.int p6), .val (.int k), .val (.int cr), .val (.ref br), .val (.ref bc), .unset] [(.int cr), (.ref bc), (.ref br), (.ref bm), (.ref bm)])) rfl (by rw [hml]; rfl) (Steps.refl _) (a := bm) (argsL := [(.ref br), (.ref bc), (.int cr)]) (rest := [(.ref bm)]) (lenOf pd_0 rfl) rfl (by show 2 * 0 + _ ≤ _; exact Nat.le_of_eq rfl) (hb hby at_170) (fun _ _ => ⟨rfl, e1051, (by decide : 3 + 2 ≤ _), (by decide : 10 + 8 ≤ _)⟩)
          dsimp only [Pt.U, Pt.locs, Pt.cells, Pt.slots] at X1052 l1052 y1052 z1052 st1052 hQ1052
          subst l1052 y1052 z1052
          obtain ⟨rfl, N1052q, K1052, bx, fx, Fx, Vx⟩ := hQ1052
          have N1052 := Fr.app N1050 N1052q
          refine goV (T' := T1052) (g' := (mkF m 173 #[.val (.int p1), .val (.int p2), .val (.int p3), .val (.int p4), .val (.int p5), .val (.int p6), .val (.int k), .val (.int cr), .val (.ref br), .val (.ref bc), .unset] [(.ref bm)])) st1052 ?_
          have z1052 : n0 ≤ T1052.heap.size := Nat.le_trans z1051 K1052.1
          have fE_bm_1052 : Exa Z T1052.heap bm "com/example/damarium/damarium/position/Move" := A1051.keep K1052
          refine go (T' := T1052) (g' := (mkF m 175 #[.val (.int p1), .val (.int p2), .val (.int p3), .val (.int p4), .val (.int p5), .val (.int p6), .val (.int k), .val (.int cr), .val (.ref br), .val (.ref bc), .val (.ref bm)] [])) (fun t kt => XS.astore X1052.here hx rfl (hb hby at_173) rfl rfl (l' := #[.val (.int p1), .val (.int p2), .val (.int p3), .val (.int p4), .val (.int p5), .val (.int p6), .val (.int k), .val (.int cr), .val (.ref br), .val (.ref bc), .val (.ref bm)]) rfl kt) ?_
          refine go (T' := T1052) (g' := (mkF m 177 #[.val (.int p1), .val (.int p2), .val (.int p3), .val (.int p4), .val (.int p5), .val (.int p6), .val (.int k), .val (.int cr), .val (.ref br), .val (.ref bc), .val (.ref bm)] [(.ref bm)])) (fun t kt => XS.aload X1052.here hx rfl (hb hby at_175) rfl rfl kt) ?_
          obtain ⟨cq1053, kq1053, q1053a, q1053b, q1053c⟩ := isOf hZ rfl fE_bm_1052
          obtain ⟨_, _, ⟨T1053, L1053, k1053, n1053⟩, -, X1053, ⟨Lc1053, hQ1053, l1053, y1053, z1053⟩, st1053⟩ := X1052.virtualBack hx (y := (⟨"com/example/damarium/damarium/position/Move", "isCapture", "()Z"⟩ : MethodName)) (z := (⟨"com/example/damarium/damarium/position/Move", "isCapture", "()Z"⟩ : MethodName)) hown (mvT hZ (hw _ (List.mem_of_getElem? (i := 26) rfl))) (mvT hZ (hw _ (List.mem_of_getElem? (i := 27) rfl))) (notFace_of_selects (args := #[]) (mvT hZ (hw _ (List.mem_of_getElem? (i := 29) rfl)))) (mvT hZ (hw _ (List.mem_of_getElem? (i := 29) rfl))) (mvT hZ (hw _ (List.mem_of_getElem? (i := 28) rfl))) (by decide) (backOf (W := 0) (rm3 l Z a0 hw [] bm bx (3 : Int32) fx T1052.heap n0 z1052 Fx Vx) hZ (hw _ (List.mem_of_getElem? (i := 30) rfl)) (hw _ (List.mem_of_getElem? (i := 4) rfl)) (by decide) (by decide)) q1053a q1053c (g := (mkF m 177 #[.val (.int p1), .val (.int p2), .val (.int p3), .val (.int p4), .val (.int p5), .val (.int p6), .val (.int k), .val (.int cr), .val (.ref br), .val (.ref bc), .val (.ref bm)] [(.ref bm)])) rfl (by rw [hml]; rfl) (Steps.refl _) (argsL := []) (rest := []) (lenOf pd_1 rfl) rfl (by show 2 * 0 + _ ≤ _; exact Nat.le_of_eq rfl) (hb hby at_177) (fun _ _ => ⟨rfl, rfl, (by decide : 5 + 0 ≤ _), (by decide : 18 + 0 ≤ _)⟩)
          dsimp only [Pt.U, Pt.locs, Pt.cells, Pt.slots] at X1053 l1053 y1053 z1053 st1053 hQ1053
          subst l1053 y1053 z1053
          obtain ⟨rfl, N1053q, e1053⟩ := hQ1053
          have N1053 := Fr.app N1052 N1053q
          refine goV (T' := T1053) (g' := (mkF m 180 #[.val (.int p1), .val (.int p2), .val (.int p3), .val (.int p4), .val (.int p5), .val (.int p6), .val (.int k), .val (.int cr), .val (.ref br), .val (.ref bc), .val (.ref bm)] [(.int (own_cap (3 : Int32)))])) st1053 ?_
          refine go (T' := T1053) (g' := (mkF m 182 #[.val (.int p1), .val (.int p2), .val (.int p3), .val (.int p4), .val (.int p5), .val (.int p6), .val (.int k), .val (.int cr), .val (.ref br), .val (.ref bc), .val (.ref bm)] [(.int k), (.int (own_cap (3 : Int32)))])) (fun t kt => XS.iload X1053.here hx rfl (hb hby at_180) rfl kt) ?_
          refine go (T' := T1053) (g' := (mkF m 185 #[.val (.int p1), .val (.int p2), .val (.int p3), .val (.int p4), .val (.int p5), .val (.int p6), .val (.int k), .val (.int cr), .val (.ref br), .val (.ref bc), .val (.ref bm)] [(.int (own_cap (3 : Int32)))])) (fun t kt => XS.ifNo X1053.here hx rfl (hb hby at_182) rfl ((if0 _ _).trans (feq hk0).1) kt) ?_
          refine go (T' := T1053) (g' := (mkF m 186 #[.val (.int p1), .val (.int p2), .val (.int p3), .val (.int p4), .val (.int p5), .val (.int p6), .val (.int k), .val (.int cr), .val (.ref br), .val (.ref bc), .val (.ref bm)] [(.int (1 : Int32)), (.int (own_cap (3 : Int32)))])) (fun t kt => XS.iconst X1053.here hx rfl (hb hby at_185) kt) ?_
          refine go (T' := T1053) (g' := (mkF m 190 #[.val (.int p1), .val (.int p2), .val (.int p3), .val (.int p4), .val (.int p5), .val (.int p6), .val (.int k), .val (.int cr), .val (.ref br), .val (.ref bc), .val (.ref bm)] [(.int (1 : Int32)), (.int (own_cap (3 : Int32)))])) (fun t kt => XS.goto X1053.here hx rfl (pc0 := 186) (pc' := 190) rfl (hb hby at_186) (by decide) (by decide) kt) ?_
          refine go (T' := T1053) (g' := (mkF m 193 #[.val (.int p1), .val (.int p2), .val (.int p3), .val (.int p4), .val (.int p5), .val (.int p6), .val (.int k), .val (.int cr), .val (.ref br), .val (.ref bc), .val (.ref bm)] [])) (fun t kt => XS.icmpNo X1053.here hx rfl (hb hby at_190) rfl (teq (by decide)).2 kt) ?_
          refine go (T' := T1053) (g' := (mkF m 194 #[.val (.int p1), .val (.int p2), .val (.int p3), .val (.int p4), .val (.int p5), .val (.int p6), .val (.int k), .val (.int cr), .val (.ref br), .val (.ref bc), .val (.ref bm)] [(.int (1 : Int32))])) (fun t kt => XS.iconst X1053.here hx rfl (hb hby at_193) kt) ?_
          refine go (T' := T1053) (g' := (mkF m 198 #[.val (.int p1), .val (.int p2), .val (.int p3), .val (.int p4), .val (.int p5), .val (.int p6), .val (.int k), .val (.int cr), .val (.ref br), .val (.ref bc), .val (.ref bm)] [(.int (1 : Int32))])) (fun t kt => XS.goto X1053.here hx rfl (pc0 := 194) (pc' := 198) rfl (hb hby at_194) (by decide) (by decide) kt) ?_
          refine goRetN X1053 hx hlk (t := .boolean) Bd.returns (by simp) (hb hby at_198) ?_ (by decide) (by decide)
          rw [e1053]
          exact ⟨rfl, N1053⟩
set_option maxRecDepth 65536 in
set_option maxHeartbeats 40000000 in
theorem comes_1 {Post : Tables → Env → Array Value → State → Outcome → State → Prop} (hpost : ∀ tb e args s v u, (limb_1_1.after args s (.returned v) u = true ∧ limb_1_2.after args s (.returned v) u = true ∧ True) → FrameEnd s (.returned v) u (Jvm.fieldLocs frame_1_writes args s ++ Jvm.arrayLocs frame_1_arrays args s ++ Jvm.staticLocs frame_1_statics s) 24 128 → Post tb e args s (.returned v) u) :
    ArmFor flags0 classFile x code maxLocals ret World_1 tables_1 room_1 Calls_1 rest_1 Pre_1 Post := by
  intro l hfl _ _ p e ha hc hk s m args below hf hA hF happ hP
  obtain ⟨hcalls, hrest, hpre⟩ := hP
  obtain ⟨-, -, -, hnamed, -, -, -, hat⟩ := (Spec.applies_iff hf).mp happ
  obtain ⟨hg, hn⟩ := and_e (Cond.before_iff.mp (show (Jvm.Cond.and given_1 narrow_1).before args s = true from hpre))
  obtain ⟨g2, g2'⟩ := and_e hg
  obtain ⟨g4, g4'⟩ := and_e g2'
  obtain ⟨g6, g6'⟩ := and_e g4'
  obtain ⟨g8, g8'⟩ := and_e g6'
  obtain ⟨g10, g10'⟩ := and_e g8'
  obtain ⟨g12, g12'⟩ := and_e g10'
  obtain ⟨w0, w1, w2, w3, w4, w5, rfl⟩ : ∃ w0 w1 w2 w3 w4 w5 : Value, args = #[w0, w1, w2, w3, w4, w5] := by
    have hs : args.size = 6 := by simpa [Cond.value, given_1] using g2
    obtain ⟨L⟩ := args
    match L, hs with
    | [w0, w1, w2, w3, w4, w5], _ => exact ⟨w0, w1, w2, w3, w4, w5, rfl⟩
  have hw := fun d (hd : d ∈ tables_1) => atoms_spec (ws := Jvm.Cond.code x code maxLocals ret :: tables_1) hat d (List.mem_cons_of_mem _ hd)
  have hfit : Fit s := fun {y c} hc i hi => by
    obtain ⟨ha, rfl⟩ := Array.getElem?_eq_some_iff.mp hc
    have q := List.all_eq_true.mp ((Array.all_eq_true_iff_forall_mem.mp hF) _ (Array.getElem_mem ha)) i (List.mem_range.mpr hi)
    simpa [Array.getElem?_eq_getElem hi] using q
  obtain ⟨i0, ei0⟩ := is_v g4
  obtain rfl : w0 = (.int i0) := Option.some.inj ei0
  obtain ⟨i1, ei1⟩ := is_v g6
  obtain rfl : w1 = (.int i1) := Option.some.inj ei1
  obtain ⟨i2, ei2⟩ := is_v g8
  obtain rfl : w2 = (.int i2) := Option.some.inj ei2
  obtain ⟨i3, ei3⟩ := is_v g10
  obtain rfl : w3 = (.int i3) := Option.some.inj ei3
  obtain ⟨i4, ei4⟩ := is_v g12
  obtain rfl : w4 = (.int i4) := Option.some.inj ei4
  obtain ⟨i5, ei5⟩ := is_v g12'
  obtain rfl : w5 = (.int i5) := Option.some.inj ei5
  obtain ⟨n, o, h1, h2, h3, _, L, rfl, ⟨rfl, N⟩, hq⟩ := rm0 l s _ hw tables_1 i0 i1 i2 i3 i4 i5 s.heap s.heap.size (Nat.le_refl _) p e ha hc hk s m _ below hf ((Spec.applies_iff_loose hf).mp happ).1 ⟨rfl, State.Warmed39.refl s, rfl⟩ trivial
  refine ⟨n, _, h1, h2, h3, hpost _ _ _ _ _ _ ⟨Cond.after_iff.mpr rfl, Cond.after_iff.mpr (eq_i res_at (Term.int_eval (1)) rfl), trivial⟩ ⟨hq.1, hq.2.1, (hq.2.2.sift fun y hy => Or.inr (N y hy)).mono (by decide) (by decide)⟩⟩
theorem main_1_1 : Claimed_1_1 := comes_1 fun _ _ _ _ _ _ h hF => ⟨h.1, hF⟩
theorem main_1_2 : Claimed_1_2 := comes_1 fun _ _ _ _ _ _ h hF => ⟨h.2.1, hF⟩
end Jvm.Pilot.@@N@@
namespace Jvm.Pilot.@@N@@
open Jvm Jvm.ClassFile Sem Op Lib Jvm.Free Jvm.Stand Jvm.Pilot.@@N@@.Jvm.D
/-! MADE BY PROGRAM (witnessworld.py) out of the Statement's table words and the real class files: 10 classes; the members and pool entries that the words name. The judged class is class 1, her method 1. -/
namespace start1
open Jvm.ClassFile
def u (s : String) : CpInfo := .utf8 (stringToUtf16 s)
/-- a pool by its gaps: so many unusable entries, then the entry; so many at the end -/
def gap : Nat → List CpInfo → List CpInfo
  | 0, r => r
  | n + 1, r => .unusable :: gap n r
def poolList (es : List (Nat × CpInfo)) (last : Nat) : List CpInfo := es.foldr (fun e r => gap e.1 (e.2 :: r)) (gap last [])
def pool (es : List (Nat × CpInfo)) (last : Nat) : Array CpInfo := ⟨poolList es last⟩
def fileOf (pool : Array CpInfo) (this : Nat) (attrs : Array Attribute := #[]) (ms : Array MethodInfo := #[]) (fl : Nat := 33) (sup : Nat := 0) (ifs : Array Nat := #[]) (fds : Array FieldInfo := #[]) : ClassFile where
  minorVersion := 0
  majorVersion := 65
  constantPool := pool
  accessFlags := fl
  thisClass := this
  superClass := sup
  interfaces := ifs
  fields := fds
  methods := ms
  attributes := attrs
def plain (name : String) (sup : Option ClassId) : Class where
  name := name
  kind := .ordinary
  loader := none
  accessFlags := 33
  super := sup
  interfaces := #[]
  cf := none
  fields := #[]
  methods := #[]
  instanceTypes := #[]
  staticTypes := #[]
  resolved := #[]
  callSites := []
  init := .initialized
  statics := none
  mirror := none

def pool0 : Array CpInfo := pool [(5, u "<init>"), (0, u "()V"), (1, .class_ 10), (1, u "java/lang/Object"), (85, u "clone"), (0, u "()Ljava/lang/Object;")] 26

def k0c0 : Code := { maxStack := 0, maxLocals := 1, code := object_method_1_code, exceptionTable := #[], attributes := #[] }
def k0m0 : Method := { name := "<init>", desc := "()V", sig := { parameters := [], returnType := none }, accessFlags := 1, code := some k0c0 }
def k0m1 : Method := { name := "clone", desc := "()Ljava/lang/Object;", sig := { parameters := [], returnType := some (.object "java/lang/Object") }, accessFlags := 260, code := none }
/-- java/lang/Object -/
def k0 : Class := { plain "java/lang/Object" none with
  accessFlags := 33
  interfaces := #[]
  cf := some (fileOf pool0 8 #[] #[{ accessFlags := 1, nameIndex := 5, descriptorIndex := 6, attributes := #[] }, { accessFlags := 260, nameIndex := 96, descriptorIndex := 97, attributes := #[] }] 33 0 #[] #[])
  fields := #[]
  methods := #[k0m0, k0m1]
  instanceTypes := #[]
  staticTypes := #[]
  resolved := Array.replicate 124 none
  statics := none }

def pool1 : Array CpInfo := pool [(2, .class_ 4), (1, u "java/lang/Object"), (0, u "<init>"), (0, u "()V"), (0, .integer 2147483647), (0, .class_ 9), (0, u "com/example/damarium/damarium/position/Move"), (0, .methodref 8 11), (0, .nameAndType 5 12), (0, u "([I[IZ)V"), (0, .methodref 8 14), (0, .nameAndType 15 16), (0, u "isCapture"), (0, u "()Z"), (0, .class_ 18), (0, u "com/example/damarium/damarium/position/MoveIsCapturePinLaw"), (2, u "law"), (0, u "(IIIIII)Z")] 5

def k1m0 : Method := { name := "<init>", desc := "()V", sig := { parameters := [], returnType := none }, accessFlags := 1, code := none }
def k1c1 : Code := { maxStack := 5, maxLocals := 11, code := code, exceptionTable := #[], attributes := #[] }
def k1m1 : Method := { name := "law", desc := "(IIIIII)Z", sig := { parameters := [.int, .int, .int, .int, .int, .int], returnType := some .boolean }, accessFlags := 9, code := some k1c1 }
/-- com/example/damarium/damarium/position/MoveIsCapturePinLaw -/
def k1 : Class := { plain "com/example/damarium/damarium/position/MoveIsCapturePinLaw" (some 0) with
  accessFlags := 49
  interfaces := #[]
  cf := some (fileOf pool1 17 #[] #[{ accessFlags := 1, nameIndex := 5, descriptorIndex := 6, attributes := #[] }, { accessFlags := 9, nameIndex := 21, descriptorIndex := 22, attributes := #[] }] 49 2 #[] #[])
  fields := #[]
  methods := #[k1m0, k1m1]
  instanceTypes := #[]
  staticTypes := #[]
  resolved := Array.replicate 28 none
  statics := none }

def pool2 : Array CpInfo := pool [(1, .class_ 2), (0, u "java/lang/Comparable"), (0, .class_ 4), (0, u "java/lang/Object")] 7

/-- java/lang/Comparable -/
def k2 : Class := { plain "java/lang/Comparable" (some 0) with
  accessFlags := 1537
  interfaces := #[]
  cf := some (fileOf pool2 1 #[] #[] 1537 3 #[] #[])
  fields := #[]
  methods := #[]
  instanceTypes := #[]
  staticTypes := #[]
  resolved := Array.replicate 12 none
  statics := none }

def pool3 : Array CpInfo := pool [(1, .methodref 2 3), (0, .class_ 4), (0, .nameAndType 5 6), (0, u "java/lang/Object"), (0, u "<init>"), (0, u "()V"), (9, .methodref 17 18), (0, .class_ 19), (0, .nameAndType 20 21), (0, u "[I"), (0, u "clone"), (0, u "()Ljava/lang/Object;"), (0, .fieldref 23 24), (0, .class_ 25), (0, .nameAndType 26 19), (0, u "com/example/damarium/damarium/position/Move"), (0, u "route"), (0, .fieldref 23 28), (0, .nameAndType 29 19), (0, u "captured"), (0, .fieldref 23 31), (0, .nameAndType 32 33), (0, u "crowns"), (0, u "Z"), (30, .class_ 65), (0, u "java/lang/Comparable"), (0, u "([I[IZ)V"), (6, u "isCapture"), (0, u "()Z")] 25

def k3c0 : Code := { maxStack := 4, maxLocals := 6, code := prog_32_method_1_code, exceptionTable := #[], attributes := #[] }
def k3m0 : Method := { name := "<init>", desc := "([I[IZ)V", sig := { parameters := [(.array .int), (.array .int), .boolean], returnType := none }, accessFlags := 1, code := some k3c0 }
def k3c1 : Code := { maxStack := 1, maxLocals := 1, code := prog_32_method_8_code, exceptionTable := #[], attributes := #[] }
def k3m1 : Method := { name := "isCapture", desc := "()Z", sig := { parameters := [], returnType := some .boolean }, accessFlags := 1, code := some k3c1 }
/-- com/example/damarium/damarium/position/Move -/
def k3 : Class := { plain "com/example/damarium/damarium/position/Move" (some 0) with
  accessFlags := 49
  interfaces := #[2]
  cf := some (fileOf pool3 23 #[] #[{ accessFlags := 1, nameIndex := 5, descriptorIndex := 66, attributes := #[] }, { accessFlags := 1, nameIndex := 73, descriptorIndex := 74, attributes := #[] }] 49 2 #[64] #[{ accessFlags := 18, nameIndex := 26, descriptorIndex := 19, attributes := #[] }, { accessFlags := 18, nameIndex := 29, descriptorIndex := 19, attributes := #[] }, { accessFlags := 18, nameIndex := 32, descriptorIndex := 33, attributes := #[] }])
  fields := #[{ name := "route", type := (.array .int), accessFlags := 18, slot := 0, constantValue := 0 }, { name := "captured", type := (.array .int), accessFlags := 18, slot := 1, constantValue := 0 }, { name := "crowns", type := .boolean, accessFlags := 18, slot := 2, constantValue := 0 }]
  methods := #[k3m0, k3m1]
  instanceTypes := #[(.array .int), (.array .int), .boolean]
  staticTypes := #[]
  resolved := Array.replicate 100 none
  statics := none }

def pool4 : Array CpInfo := pool [(1, .class_ 2), (0, u "java/lang/Cloneable"), (0, .class_ 4), (0, u "java/lang/Object")] 2

/-- java/lang/Cloneable -/
def k4 : Class := { plain "java/lang/Cloneable" (some 0) with
  accessFlags := 1537
  interfaces := #[]
  cf := some (fileOf pool4 1 #[] #[] 1537 3 #[] #[])
  fields := #[]
  methods := #[]
  instanceTypes := #[]
  staticTypes := #[]
  resolved := Array.replicate 7 none
  statics := none }

def pool5 : Array CpInfo := pool [(1, u "java/io/Serializable"), (0, .class_ 1), (0, u "java/lang/Object"), (0, .class_ 3)] 3

/-- java/io/Serializable -/
def k5 : Class := { plain "java/io/Serializable" (some 0) with
  accessFlags := 1537
  interfaces := #[]
  cf := some (fileOf pool5 2 #[] #[] 1537 4 #[] #[])
  fields := #[]
  methods := #[]
  instanceTypes := #[]
  staticTypes := #[]
  resolved := Array.replicate 8 none
  statics := none }

/-- the primitive byte -/
def k6 : Class := { plain "byte" none with kind := .primitive 'B', accessFlags := 0x411 }
/-- [B -/
def k7 : Class := { plain "[B" (some 0) with kind := .array 6 .byte, interfaces := #[4, 5], accessFlags := 1041 }

/-- the primitive int -/
def k8 : Class := { plain "int" none with kind := .primitive 'I', accessFlags := 0x411 }
/-- [I -/
def k9 : Class := { plain "[I" (some 0) with kind := .array 8 .int, interfaces := #[4, 5], accessFlags := 1041 }

def heap : Heap := #[]
def classes : Array Class := #[k0, k1, k2, k3, k4, k5, k6, k7, k8, k9]
def interned : List (Array UInt16 × Addr) := []
def slotsUsed : Nat := 0
def theMethod : MethodId := ⟨1, 1⟩
def args0 : Array Value := #[.int 1, .int 2, .int 3, .int 4, .int 5, .int 6]
def aboutOver (below : List Frame) : State where
  vm := { classes := classes, interned := interned.toArray }
  heap := heap
  slotsUsed := slotsUsed
  threads := #[{ frames := .invoking theMethod args0 :: below }]
def below0 : List Frame := [.native { method := ⟨0, 0⟩, args := #[] }]
def about1 : State := aboutOver below0
def p0 : Program := .bare "" "" ""
def e0 : Env := launch0.env 0 0 0
theorem w_frames : about1.frames = Frame.invoking theMethod args0 :: below0 := rfl
set_option maxRecDepth 65536 in
theorem w_args : argsFit about1.vm theMethod args0 = true := by decide +kernel
set_option maxRecDepth 65536 in
theorem w_heap : heapFits about1 = true := by decide +kernel
set_option maxRecDepth 65536 in
theorem w_runnable : about1.curStatus? = some .runnable := by decide +kernel
set_option maxRecDepth 65536 in
theorem w_alone : about1.alone = true := by decide +kernel
set_option maxRecDepth 65536 in
theorem w_named : about1.methodNamed? x = some theMethod := by decide +kernel
set_option maxRecDepth 65536 in
theorem w_hears : about1.hears theMethod below0 = true := by decide +kernel
set_option maxRecDepth 65536 in
theorem w_ripe : about1.ripe theMethod args0 below0 = true := by decide +kernel
theorem w_running : about1.status = .running := rfl
set_option maxRecDepth 65536 in
theorem w_room : about1.hasRoom e0.platform room_1 = true :=
  launch0.hasRoom_least _ room_1 (by decide +kernel) (by decide +kernel) (by decide +kernel) (by decide +kernel) (by decide +kernel) (by decide +kernel)
theorem allAtoms_all (ts : List Jvm.Cond) (a : Array Jvm.Value) (st : Jvm.State) : (allAtoms ts).before a st = ts.all (fun c => c.before a st) := by
  induction ts with
  | nil => rfl
  | cons c t ih =>
    show (Jvm.Cond.and c (allAtoms t)).before a st = _
    rw [Jvm.Cond.before_and, ih, List.all_cons]
def words1 : List Jvm.Cond := Jvm.Cond.code x code maxLocals ret :: tables_1
/-- a 'code' word, met by the world's own term for the bytes: nothing is compared byte by byte -/
theorem code_word {y : MethodName} {bytes : ByteArray} {mx : Nat} {rt : Option FieldType} {a : Array Value} {s : State} {m : MethodId} {meth : Method} {c : Code} (h1 : s.methodNamed? y = some m) (h2 : s.vm.method? m = some meth) (h3 : meth.code = some c) (h4 : c.code = bytes)
    (h5 : (c.maxLocals == mx && c.exceptionTable.isEmpty && decide (c.maxStack ≤ mostOperands) && decide (meth.sig.returnType = rt) && !meth.locks && decide (parseMethodDescriptor y.desc = some meth.sig)) = true) : (Jvm.Cond.code y bytes mx rt).before a s = true := by
  simp only [Bool.and_eq_true, beq_iff_eq, Bool.not_eq_true', decide_eq_true_eq] at h5
  obtain ⟨⟨⟨⟨⟨g1, g2⟩, g3⟩, g4⟩, g5⟩, g6⟩ := h5
  simp [Cond.before, Cond.holds, Cond.value, h1, h2, h3, h4, g1, g2, g3, g4, g5, g6]
def isCode : Jvm.Cond → Bool
  | .code _ _ _ _ => true
  | _ => false
theorem all_split {L : List Jvm.Cond} {P : Jvm.Cond → Bool} (h1 : L.all (fun c => isCode c || P c) = true) (h2 : ∀ c ∈ L.filter isCode, P c = true) : L.all P = true := by
  refine List.all_eq_true.mpr fun c hc => ?_
  have h := List.all_eq_true.mp h1 c hc
  rcases Bool.eq_false_or_eq_true (isCode c) with hi | hi
  · exact h2 c (List.mem_filter.mpr ⟨hc, hi⟩)
  · simpa [hi] using h
set_option maxRecDepth 65536 in
theorem w_c0 : (Jvm.Cond.code x code maxLocals ret).before args0 about1 = true := code_word (m := ⟨1, 1⟩) (meth := k1m1) (c := k1c1) (by decide +kernel) rfl rfl rfl (by decide +kernel)
set_option maxRecDepth 65536 in
theorem w_c1 : (Jvm.Cond.code ({ cls := "com/example/damarium/damarium/position/Move", name := "<init>", desc := "([I[IZ)V" } : Jvm.MethodName) prog_32_method_1_code (6 : Nat) (Option.none : Option Jvm.ClassFile.FieldType)).before args0 about1 = true := code_word (m := ⟨3, 0⟩) (meth := k3m0) (c := k3c0) (by decide +kernel) rfl rfl rfl (by decide +kernel)
set_option maxRecDepth 65536 in
theorem w_c2 : (Jvm.Cond.code ({ cls := "java/lang/Object", name := "<init>", desc := "()V" } : Jvm.MethodName) object_method_1_code (1 : Nat) (Option.none : Option Jvm.ClassFile.FieldType)).before args0 about1 = true := code_word (m := ⟨0, 0⟩) (meth := k0m0) (c := k0c0) (by decide +kernel) rfl rfl rfl (by decide +kernel)
set_option maxRecDepth 65536 in
theorem w_c3 : (Jvm.Cond.code ({ cls := "com/example/damarium/damarium/position/Move", name := "isCapture", desc := "()Z" } : Jvm.MethodName) prog_32_method_8_code (1 : Nat) (Option.some Jvm.ClassFile.FieldType.boolean)).before args0 about1 = true := code_word (m := ⟨3, 1⟩) (meth := k3m1) (c := k3c1) (by decide +kernel) rfl rfl rfl (by decide +kernel)
def codes1 : List Jvm.Cond := [Jvm.Cond.code x code maxLocals ret, Jvm.Cond.code ({ cls := "com/example/damarium/damarium/position/Move", name := "<init>", desc := "([I[IZ)V" } : Jvm.MethodName) prog_32_method_1_code (6 : Nat) (Option.none : Option Jvm.ClassFile.FieldType), Jvm.Cond.code ({ cls := "java/lang/Object", name := "<init>", desc := "()V" } : Jvm.MethodName) object_method_1_code (1 : Nat) (Option.none : Option Jvm.ClassFile.FieldType), Jvm.Cond.code ({ cls := "com/example/damarium/damarium/position/Move", name := "isCapture", desc := "()Z" } : Jvm.MethodName) prog_32_method_8_code (1 : Nat) (Option.some Jvm.ClassFile.FieldType.boolean)]
set_option maxRecDepth 65536 in
theorem codes_eq : words1.filter isCode = codes1 := rfl
theorem w_codes : ∀ c ∈ words1.filter isCode, c.before args0 about1 = true := by
  rw [codes_eq]
  intro c hc
  simp only [codes1, List.mem_cons, List.not_mem_nil, or_false] at hc
  rcases hc with rfl | rfl | rfl | rfl
  · exact w_c0
  · exact w_c1
  · exact w_c2
  · exact w_c3
set_option maxRecDepth 65536 in
theorem w_t1 : (words1.take 24).all (fun c => isCode c || c.before args0 about1) = true := by decide +kernel
set_option maxRecDepth 65536 in
theorem w_t2 : (words1.drop 24).all (fun c => isCode c || c.before args0 about1) = true := by decide +kernel
theorem w_tables : (allAtoms (Jvm.Cond.code x code maxLocals ret :: tables_1)).before args0 about1 = true := by
  rw [allAtoms_all]
  show words1.all (fun c => c.before args0 about1) = true
  refine all_split ?_ w_codes
  rw [← List.take_append_drop 24 words1, List.all_append, w_t1, w_t2]
  rfl
set_option maxRecDepth 65536 in
theorem w_case : (Jvm.Cond.and given_1 narrow_1).before args0 about1 = true := by decide +kernel
theorem w_applies : (headSpec (Jvm.Cond.code x code maxLocals ret :: tables_1) room_1).applies x e0.platform about1 = true :=
  (Spec.applies_iff w_frames).mpr ⟨w_running, w_runnable, w_alone, w_named, w_hears, w_ripe, w_room, w_tables⟩
theorem atStart : AtStart classFile x code maxLocals ret World_1 tables_1 room_1 Calls_1 rest_1 Pre_1 launch0 p0 e0 about1 theMethod args0 below0 :=
  ⟨lists_1, trivial, launch0.admits_env _ _ _, launch0.least_env, fairChoices_fair.cas, fairChoices_fair.clock, w_frames, w_args, w_heap, w_applies, trivial, trivial, w_case⟩
end start1
theorem witness_1 : WitnessClaimed_1 := ⟨start1.p0, start1.e0, start1.about1, start1.theMethod, start1.args0, start1.below0, start1.atStart⟩
end Jvm.Pilot.@@N@@
