import JvmDerived
import JvmDerived.Pilot.@@N@@Statement
import JvmDerived.Pilot.@@N@@Code
set_option linter.unusedVariables false
set_option linter.unusedSimpArgs false
/- laws to paste: Road.backV, Road.eqW (cut by pick.py; bodies as the Statement names them) -/
namespace Jvm.Pilot.@@N@@
namespace StrChars
open Jvm Sem ClassFile Op Lib Jvm.Stand Jvm.Free.XT Jvm.Free.ALB Jvm.Free.JM Jvm.Free
open Jvm.Lib.Cold (StaticIs)
/-- a char array whose places are chars -/
def Ch (a : Addr) (A : Cell) (U : State) : Prop := Arr .char a A U ∧ Typed .char A
theorem Ch.mv {a : Addr} {A : Cell} {U U' : State} (h : Ch a A U) (hal : U.vm.Alike U'.vm) (hh : U'.heap = U.heap) : Ch a A U' := ⟨h.1.mv hal hh, h.2⟩
theorem Ch.keep {a : Addr} {A : Cell} {U U' : State} (h : Ch a A U) (hal : U.vm.Alike U'.vm) (hk : U'.heap[a]? = some A) : Ch a A U' := ⟨h.1.keep hal hk, h.2⟩
/-- what place i of a char[]'s cell holds -/
def cv (A : Cell) (i : Nat) : Int32 := match A.slots[i]? with | some (.int x) => x | _ => 0
theorem Ch.get {a : Addr} {A : Cell} {U : State} (h : Ch a A U) {i : Nat} (hi : i < A.slots.size) : A.slots[i]? = some (.int (cv A i)) := by
  have e := Array.getElem?_eq_getElem hi
  have f := h.2 i _ e
  unfold cv; rw [e]
  generalize A.slots[i] = v at f
  cases v <;> simp [fits] at f ⊢
/-- the byte that i2b leaves of a char -/
def lo8 (x : Int32) : Int32 := x.toInt8.toInt32
theorem fits_lo8 (y : Int32) : fits .byte (.int (lo8 y)) = true := by
  have h1 := y.toInt8.le_toInt
  have h2 := y.toInt8.toInt_lt
  simp only [lo8, fits, Bool.and_eq_true, decide_eq_true_eq, Int32.le_iff_toInt_le, Int8.toInt_toInt32, show (-128 : Int32).toInt = -128 from by decide, show (127 : Int32).toInt = 127 from by decide]
  omega
/-- A' is A but that each place j of lo .. hi - 1 holds f j -/
def Laid (A A' : Cell) (lo hi : Nat) (f : Nat → Value) : Prop := A'.cls = A.cls ∧ A'.vm = A.vm ∧ A'.slots.size = A.slots.size ∧ ∀ i, A'.slots[i]? = if lo ≤ i ∧ i < hi then some (f i) else A.slots[i]?
theorem Laid.zero (A : Cell) (lo : Nat) (f : Nat → Value) : Laid A A lo (lo + 0) f := ⟨rfl, rfl, rfl, fun i => by rw [if_neg (by omega)]⟩
theorem Laid.step {A Ak : Cell} {lo k : Nat} {f : Nat → Value} {v : Value} (h : Laid A Ak lo k f) (hlo : lo ≤ k) (hk : k < Ak.slots.size) (hv : v = f k) : Laid A (Ak.setSlot k v) lo (k + 1) f := by
  refine ⟨h.1, h.2.1, by simpa [Cell.setSlot] using h.2.2.1, fun i => ?_⟩
  by_cases e : k = i
  · subst e; rw [Cell.slots_setSlot_self v hk, if_pos (by omega), hv]
  · rw [Cell.slots_setSlot_ne v e, h.2.2.2 i]
    by_cases q : lo ≤ i ∧ i < k
    · rw [if_pos q, if_pos (by omega)]
    · rw [if_neg q, if_neg (by omega)]
def U16 : String := "java/lang/StringUTF16"
namespace Cmp5
def yN : MethodName := ⟨"java/lang/StringUTF16", "compress", "([CI[BII)I"⟩
abbrev yB : ByteArray := jdk_52_method_21_code
theorem d0 : decode yB 0 = .ok (.iconst 0, 1) := by decide +kernel
theorem d1 : decode yB 1 = .ok (.istore 5, 2) := by decide +kernel
theorem d3 : decode yB 3 = .ok (.iload 5, 2) := by decide +kernel
theorem d5 : decode yB 5 = .ok (.iload 4, 2) := by decide +kernel
theorem d7 : decode yB 7 = .ok (.if_icmp (.ge) 37, 3) := by decide +kernel
theorem d10 : decode yB 10 = .ok (.aload_n 0, 1) := by decide +kernel
theorem d11 : decode yB 11 = .ok (.iload_n 1, 1) := by decide +kernel
theorem d12 : decode yB 12 = .ok (.caload, 1) := by decide +kernel
theorem d13 : decode yB 13 = .ok (.istore 6, 2) := by decide +kernel
theorem d15 : decode yB 15 = .ok (.iload 6, 2) := by decide +kernel
theorem d17 : decode yB 17 = .ok (.sipush 255, 3) := by decide +kernel
theorem d20 : decode yB 20 = .ok (.if_icmp (.le) 6, 3) := by decide +kernel
theorem d26 : decode yB 26 = .ok (.aload_n 2, 1) := by decide +kernel
theorem d27 : decode yB 27 = .ok (.iload_n 3, 1) := by decide +kernel
theorem d28 : decode yB 28 = .ok (.iload 6, 2) := by decide +kernel
theorem d30 : decode yB 30 = .ok (.i2b, 1) := by decide +kernel
theorem d31 : decode yB 31 = .ok (.bastore, 1) := by decide +kernel
theorem d32 : decode yB 32 = .ok (.iinc 1 1, 3) := by decide +kernel
theorem d35 : decode yB 35 = .ok (.iinc 3 1, 3) := by decide +kernel
theorem d38 : decode yB 38 = .ok (.iinc 5 1, 3) := by decide +kernel
theorem d41 : decode yB 41 = .ok (.goto (-38), 3) := by decide +kernel
theorem d44 : decode yB 44 = .ok (.iload 4, 2) := by decide +kernel
theorem d46 : decode yB 46 = .ok (.ireturn, 1) := by decide +kernel
def site : List Cond := []
def tab : Cond := tabOf yN yB 7 (some .int) site
def P (b : Addr) (A : Cell) (d : Addr) (B : Cell) (o q len : Nat) (args : Array Value) (s : State) : Prop := args = #[.ref b, .int (Int32.ofNat o), .ref d, .int (Int32.ofNat q), .int (Int32.ofNat len)] ∧ Ch b A s ∧ Arr .byte d B s ∧ b ≠ d ∧ o + len ≤ A.slots.size ∧ q + len ≤ B.slots.size ∧ ∀ i, i < len → ¬ 255 < cv A (o + i)
def E (b : Addr) (A : Cell) (d : Addr) (B : Cell) (o q len : Nat) (r : Option Value) (s u : State) : Prop := r = some (.int (Int32.ofNat len)) ∧ ∃ B', Put d B' s u ∧ Laid B B' q (q + len) (fun j => Value.int (lo8 (cv A (o + (j - q)))))
/-- no char of the range above 255: len; the places written hold each char's low byte -/
theorem law (l : Launch) (b : Addr) (A : Cell) (d : Addr) (B : Cell) (o q len : Nat) : Law l yN 5 5 0 0 yB 7 (some .int) site (P b A d B o q len) (E b A d B o q len) (copyLocs d q len) 0 0 := by
  refine Law.of_walk (plainFor_of_name (by decide +kernel)) (by decide +kernel) (by decide +kernel) (by decide) (fun _ _ h => by rw [h.1]; rfl) (fun _ U U' hal hh h => ⟨h.1, h.2.1.mv hal hh, h.2.2.1.mv hal hh, h.2.2.2⟩) (fun r U U' V V' h1 hal h2 h => ⟨h.1, h.2.elim fun B' q => ⟨B', q.1.mv h1 h2, q.2⟩⟩) ?_
  intro p e s m args below meth c s₁ X0 hexec hbytes hml hret hlk hnm hown hh0 W hP
  obtain ⟨rfl, hA, hB, hne, l1, l2, hp⟩ := hP
  have c1 : Steps p.tables e below (s₁.setTop (entryFrame m #[.ref b, .int (Int32.ofNat o), .ref d, .int (Int32.ofNat q), .int (Int32.ofNat len)] 7)) (s₁.setTop (mkF m 0 #[.val (.ref b), .val (.int (Int32.ofNat o)), .val (.ref d), .val (.int (Int32.ofNat q)), .val (.int (Int32.ofNat len)), .unset, .unset] [])) := entry rfl
  have hA0 := hA.1.mv X0.warmed.alike hh0
  have hB0 := hB.mv X0.warmed.alike hh0
  have a31 := hA.1.2.2.2
  have c2 : Steps p.tables e below (s₁.setTop (entryFrame m #[.ref b, .int (Int32.ofNat o), .ref d, .int (Int32.ofNat q), .int (Int32.ofNat len)] 7)) (s₁.setTop (mkF m 3 #[.val (.ref b), .val (.int (Int32.ofNat o)), .val (.ref d), .val (.int (Int32.ofNat q)), .val (.int (Int32.ofNat len)), .val (.int 0), .unset] [])) := c1.trans (by
    refine iconstV X0.here hexec rfl 0 (hb hbytes d0) (by decide) ?_
    refine XS.istore X0.here hexec rfl (hb hbytes d1) rfl rfl ?_
    exact Steps.refl _)
  have loop : ∀ (r i : Nat), i + r = len → ∀ (z : Slot), (z = .unset ∨ ∃ w, z = .val w ∧ w.category = 1) → ∀ (Tl : State) (Bk : Cell), Stand p l e { frames := 0, locals := 0, cells := 0, slots := 0 } s m #[.ref b, .int (Int32.ofNat o), .ref d, .int (Int32.ofNat q), .int (Int32.ofNat len)] below meth c Tl ([] ++ copyLocs d q i) 0 0 → Put d Bk s₁ Tl → Laid B Bk q (q + i) (fun j => Value.int (lo8 (cv A (o + (j - q))))) →
      Steps p.tables e below (s₁.setTop (entryFrame m #[.ref b, .int (Int32.ofNat o), .ref d, .int (Int32.ofNat q), .int (Int32.ofNat len)] 7)) (Tl.setTop (mkF m 3 #[.val (.ref b), .val (.int (Int32.ofNat (o + i))), .val (.ref d), .val (.int (Int32.ofNat (q + i))), .val (.int (Int32.ofNat len)), .val (.int (Int32.ofNat i)), z] [])) → ∃ (T' : State) (B' : Cell) (z' : Slot), Stand p l e { frames := 0, locals := 0, cells := 0, slots := 0 } s m #[.ref b, .int (Int32.ofNat o), .ref d, .int (Int32.ofNat q), .int (Int32.ofNat len)] below meth c T' ([] ++ copyLocs d q len) 0 0 ∧ Put d B' s₁ T' ∧ Laid B B' q (q + len) (fun j => Value.int (lo8 (cv A (o + (j - q))))) ∧
      Steps p.tables e below (s₁.setTop (entryFrame m #[.ref b, .int (Int32.ofNat o), .ref d, .int (Int32.ofNat q), .int (Int32.ofNat len)] 7)) (T'.setTop (mkF m 3 #[.val (.ref b), .val (.int (Int32.ofNat (o + len))), .val (.ref d), .val (.int (Int32.ofNat (q + len))), .val (.int (Int32.ofNat len)), .val (.int (Int32.ofNat len)), z'] [])) := by
    intro r
    induction r with
    | zero =>
      intro i hi z hz Tl Bk Xl pl fl cl
      have hil : i = len := by omega
      rw [hil] at Xl fl cl
      exact ⟨Tl, Bk, z, Xl, pl, fl, cl⟩
    | succ r ih =>
      intro i hi z hz Tl Bk Xl pl fl cl
      have all := X0.warmed.alike.symm.trans Xl.warmed.alike
      have hAl := hA0.keep all (pl.other hne hA0.1)
      have hBk := hB0.like all pl.1 fl.1 fl.2.1 fl.2.2.1
      have hlt : q + i < Bk.slots.size := by rw [fl.2.2.1]; omega
      have c3 : Steps p.tables e below (s₁.setTop (entryFrame m #[.ref b, .int (Int32.ofNat o), .ref d, .int (Int32.ofNat q), .int (Int32.ofNat len)] 7)) (Tl.setTop (mkF m 12 #[.val (.ref b), .val (.int (Int32.ofNat (o + i))), .val (.ref d), .val (.int (Int32.ofNat (q + i))), .val (.int (Int32.ofNat len)), .val (.int (Int32.ofNat i)), z] [.int (Int32.ofNat (o + i)), .ref b])) := cl.trans (by
        refine XS.iload Xl.here hexec rfl (hb hbytes d3) rfl ?_
        refine XS.iload Xl.here hexec rfl (hb hbytes d5) rfl ?_
        refine XS.icmpNo Xl.here hexec rfl (hb hbytes d7) rfl (ii_ge_f (lt32 (by omega) (by omega))) ?_
        refine XS.aloadN Xl.here hexec rfl (hb hbytes d10) rfl rfl ?_
        refine XS.iloadN Xl.here hexec rfl (hb hbytes d11) rfl ?_
        exact Steps.refl _)
      have c4 : Steps p.tables e below (s₁.setTop (entryFrame m #[.ref b, .int (Int32.ofNat o), .ref d, .int (Int32.ofNat q), .int (Int32.ofNat len)] 7)) (Tl.setTop (mkF m 13 #[.val (.ref b), .val (.int (Int32.ofNat (o + i))), .val (.ref d), .val (.int (Int32.ofNat (q + i))), .val (.int (Int32.ofNat len)), .val (.int (Int32.ofNat i)), z] [.int (cv A (o + i))])) := c3.trans (by
        refine Xl.aget hexec hAl rfl (hA.get (i := o + i) (by omega)) rfl rfl (hb hbytes d12) ?_
        exact Steps.refl _)
      have c5 : Steps p.tables e below (s₁.setTop (entryFrame m #[.ref b, .int (Int32.ofNat o), .ref d, .int (Int32.ofNat q), .int (Int32.ofNat len)] 7)) (Tl.setTop (mkF m 15 #[.val (.ref b), .val (.int (Int32.ofNat (o + i))), .val (.ref d), .val (.int (Int32.ofNat (q + i))), .val (.int (Int32.ofNat len)), .val (.int (Int32.ofNat i)), .val (.int (cv A (o + i)))] [])) := c4.trans (by
        refine XS.istoreS Xl.here hexec rfl (hb hbytes d13) rfl rfl hz ?_
        exact Steps.refl _)
      have c6 : Steps p.tables e below (s₁.setTop (entryFrame m #[.ref b, .int (Int32.ofNat o), .ref d, .int (Int32.ofNat q), .int (Int32.ofNat len)] 7)) (Tl.setTop (mkF m 31 #[.val (.ref b), .val (.int (Int32.ofNat (o + i))), .val (.ref d), .val (.int (Int32.ofNat (q + i))), .val (.int (Int32.ofNat len)), .val (.int (Int32.ofNat i)), .val (.int (cv A (o + i)))] [.int (lo8 (cv A (o + i))), .int (Int32.ofNat (q + i)), .ref d])) := c5.trans (by
        refine XS.iload Xl.here hexec rfl (hb hbytes d15) rfl ?_
        refine sipushV Xl.here hexec rfl 255 (hb hbytes d17) (by decide) ?_
        refine XS.icmpYes Xl.here hexec rfl (pc0 := 20) rfl (hb hbytes d20) rfl (ii_le_t (hp i (by omega))) (by decide) rfl ?_
        refine XS.aloadN Xl.here hexec rfl (hb hbytes d26) rfl rfl ?_
        refine XS.iloadN Xl.here hexec rfl (hb hbytes d27) rfl ?_
        refine XS.iload Xl.here hexec rfl (hb hbytes d28) rfl ?_
        refine i2b Xl.here hexec rfl (hb hbytes d30) rfl ?_
        exact Steps.refl _)
      obtain ⟨T7, X7, p7, st7⟩ := Xl.aput hexec hBk rfl hlt rfl (fits_lo8 (cv A (o + i))) (g := (mkF m 31 #[.val (.ref b), .val (.int (Int32.ofNat (o + i))), .val (.ref d), .val (.int (Int32.ofNat (q + i))), .val (.int (Int32.ofNat len)), .val (.int (Int32.ofNat i)), .val (.int (cv A (o + i)))] [.int (lo8 (cv A (o + i))), .int (Int32.ofNat (q + i)), .ref d])) rfl (rest := []) rfl (hb hbytes d31)
      have c8 : Steps p.tables e below (s₁.setTop (entryFrame m #[.ref b, .int (Int32.ofNat o), .ref d, .int (Int32.ofNat q), .int (Int32.ofNat len)] 7)) (T7.setTop (mkF m 32 #[.val (.ref b), .val (.int (Int32.ofNat (o + i))), .val (.ref d), .val (.int (Int32.ofNat (q + i))), .val (.int (Int32.ofNat len)), .val (.int (Int32.ofNat i)), .val (.int (cv A (o + i)))] [])) := c6.trans (st7 _ (Steps.refl _))
      have c9 : Steps p.tables e below (s₁.setTop (entryFrame m #[.ref b, .int (Int32.ofNat o), .ref d, .int (Int32.ofNat q), .int (Int32.ofNat len)] 7)) (T7.setTop (mkF m 3 #[.val (.ref b), .val (.int (Int32.ofNat (o + i) + 1)), .val (.ref d), .val (.int (Int32.ofNat (q + i) + 1)), .val (.int (Int32.ofNat len)), .val (.int (Int32.ofNat i + 1)), .val (.int (cv A (o + i)))] [])) := c8.trans (by
        refine iincV X7.here hexec rfl 1 (hb hbytes d32) (by decide) rfl rfl ?_
        refine iincV X7.here hexec rfl 1 (hb hbytes d35) (by decide) rfl rfl ?_
        refine iincV X7.here hexec rfl 1 (hb hbytes d38) (by decide) rfl rfl ?_
        refine XS.goto X7.here hexec rfl (pc0 := 41) rfl (hb hbytes d41) (by decide) rfl ?_
        exact Steps.refl _)
      have c10 : Steps p.tables e below (s₁.setTop (entryFrame m #[.ref b, .int (Int32.ofNat o), .ref d, .int (Int32.ofNat q), .int (Int32.ofNat len)] 7)) (T7.setTop (mkF m 3 #[.val (.ref b), .val (.int (Int32.ofNat (o + (i + 1)))), .val (.ref d), .val (.int (Int32.ofNat (q + (i + 1)))), .val (.int (Int32.ofNat len)), .val (.int (Int32.ofNat (i + 1))), .val (.int (cv A (o + i)))] [])) := by
        have := c9
        rw [succ32, succ32, succ32] at this
        exact this
      exact ih (i + 1) (by omega) _ (Or.inr ⟨_, rfl, rfl⟩) T7 _ (by rw [copyLocs_step, ← List.append_assoc]; exact X7) (pl.trans p7) (fl.step (by omega) hlt (by simp)) c10
  obtain ⟨T9, B9, z9, X9, p9, f9, g9⟩ := loop len 0 (by omega) .unset (Or.inl rfl) s₁ B (by simpa [copyLocs] using X0) ⟨hB0.1, fun _ _ => rfl, rfl⟩ (Laid.zero _ _ _) c2
  have c11 : Steps p.tables e below (s₁.setTop (entryFrame m #[.ref b, .int (Int32.ofNat o), .ref d, .int (Int32.ofNat q), .int (Int32.ofNat len)] 7)) (T9.setTop (mkF m 46 #[.val (.ref b), .val (.int (Int32.ofNat (o + len))), .val (.ref d), .val (.int (Int32.ofNat (q + len))), .val (.int (Int32.ofNat len)), .val (.int (Int32.ofNat len)), z9] [.int (Int32.ofNat len)])) := g9.trans (by
    refine XS.iload X9.here hexec rfl (hb hbytes d3) rfl ?_
    refine XS.iload X9.here hexec rfl (hb hbytes d5) rfl ?_
    refine XS.icmpYes X9.here hexec rfl (pc0 := 7) rfl (hb hbytes d7) rfl (ii_ge_t (nlt32 (by omega) (Nat.le_refl _))) (by decide) rfl ?_
    refine XS.iload X9.here hexec rfl (hb hbytes d44) rfl ?_
    exact Steps.refl _)
  exact ⟨T9, some (.int (Int32.ofNat len)), _, _, _, X9, by simp, rfl, rfl, (fun h => by cases h), ⟨rfl, B9, p9.from hh0, f9⟩, fun fs hl => c11.trans (X9.ireturnOut hexec hret rfl (Or.inl rfl) (hb hbytes d46) hl)⟩
end Cmp5
namespace Cmp3
def yN : MethodName := ⟨"java/lang/StringUTF16", "compress", "([CII)[B"⟩
abbrev yB : ByteArray := jdk_52_method_16_code
theorem d0 : decode yB 0 = .ok (.iload_n 2, 1) := by decide +kernel
theorem d1 : decode yB 1 = .ok (.newarray .byte, 2) := by decide +kernel
theorem d3 : decode yB 3 = .ok (.astore_n 3, 1) := by decide +kernel
theorem d4 : decode yB 4 = .ok (.aload_n 0, 1) := by decide +kernel
theorem d5 : decode yB 5 = .ok (.iload_n 1, 1) := by decide +kernel
theorem d6 : decode yB 6 = .ok (.aload_n 3, 1) := by decide +kernel
theorem d7 : decode yB 7 = .ok (.iconst 0, 1) := by decide +kernel
theorem d8 : decode yB 8 = .ok (.iload_n 2, 1) := by decide +kernel
theorem d9 : decode yB 9 = .ok (.invokestatic 115, 3) := by decide +kernel
theorem d12 : decode yB 12 = .ok (.istore 4, 2) := by decide +kernel
theorem d14 : decode yB 14 = .ok (.iload 4, 2) := by decide +kernel
theorem d16 : decode yB 16 = .ok (.iload_n 2, 1) := by decide +kernel
theorem d17 : decode yB 17 = .ok (.if_icmp (.eq) 40, 3) := by decide +kernel
theorem d57 : decode yB 57 = .ok (.aload_n 3, 1) := by decide +kernel
theorem d58 : decode yB 58 = .ok (.areturn, 1) := by decide +kernel
def site : List Cond := [.arrayClass .byte, Cmp5.tab] ++ staticW U16 115 Cmp5.yN
def tab : Cond := tabOf yN yB 6 (some (.array .byte)) site
def P (b : Addr) (A : Cell) (o len : Nat) (args : Array Value) (s : State) : Prop := args = #[.ref b, .int (Int32.ofNat o), .int (Int32.ofNat len)] ∧ Ch b A s ∧ o + len ≤ A.slots.size ∧ len ≤ 536870912 ∧ ∀ i, i < len → ¬ 255 < cv A (o + i)
def E (b : Addr) (A : Cell) (o len : Nat) (r : Option Value) (s u : State) : Prop := NewArr .byte "[B" len (fun j => .int (lo8 (cv A (o + j)))) r s u ∧ u.heap.size = s.heap.size + 1
/-- no char of the range above 255: a new byte[] of their low bytes -/
theorem law (l : Launch) (b : Addr) (A : Cell) (o len : Nat) : Law l yN 3 3 1 18 yB 6 (some (.array .byte)) site (P b A o len) (E b A o len) [] 1 len := by
  refine Law.of_walk (plainFor_of_name (by decide +kernel)) (by decide +kernel) (by decide +kernel) (by decide) (fun _ _ h => by rw [h.1]; rfl) (fun _ U U' hal hh h => ⟨h.1, h.2.1.mv hal hh, h.2.2⟩) (fun r U U' V V' h1 hal h2 h => ⟨NewArr.mv r U U' V V' h1 hal h2 h.1, by rw [h1, h2]; exact h.2⟩) ?_
  intro p e s m args below meth c s₁ X0 hexec hbytes hml hret hlk hnm hown hh0 W hP
  obtain ⟨rfl, hA, l1, l2, hp⟩ := hP
  have a31 := hA.1.2.2.2
  have c1 : Steps p.tables e below (s₁.setTop (entryFrame m #[.ref b, .int (Int32.ofNat o), .int (Int32.ofNat len)] 6)) (s₁.setTop (mkF m 0 #[.val (.ref b), .val (.int (Int32.ofNat o)), .val (.int (Int32.ofNat len)), .unset, .unset, .unset] [])) := entry rfl
  have c2 : Steps p.tables e below (s₁.setTop (entryFrame m #[.ref b, .int (Int32.ofNat o), .int (Int32.ofNat len)] 6)) (s₁.setTop (mkF m 1 #[.val (.ref b), .val (.int (Int32.ofNat o)), .val (.int (Int32.ofNat len)), .unset, .unset, .unset] [.int (Int32.ofNat len)])) := c1.trans (by
    refine XS.iloadN X0.here hexec rfl (hb hbytes d0) rfl ?_
    exact Steps.refl _)
  obtain ⟨T3, B3, X3, ba3, bs3, bv3, bh3, bf3, st3⟩ := X0.anew hexec (atype := .byte) (wk W (.arrayClass .byte)) rfl (by show len * 1 ≤ _; omega) (by omega) (g := (mkF m 1 #[.val (.ref b), .val (.int (Int32.ofNat o)), .val (.int (Int32.ofNat len)), .unset, .unset, .unset] [.int (Int32.ofNat len)])) rfl (hb hbytes d1) (rest := []) rfl (Nat.le_refl _) (by show 0 + len ≤ len; omega)
  rw [hh0] at ba3 st3
  have kp3 : XT.Kept s T3 := (XT.Kept.of_eq hh0).push bh3
  have hA3 := hA.keep X3.warmed.alike (kp3 _ _ hA.1.1)
  have hne : b ≠ s.heap.size := hA.1.ne
  have c4 : Steps p.tables e below (s₁.setTop (entryFrame m #[.ref b, .int (Int32.ofNat o), .int (Int32.ofNat len)] 6)) (T3.setTop (mkF m 3 #[.val (.ref b), .val (.int (Int32.ofNat o)), .val (.int (Int32.ofNat len)), .unset, .unset, .unset] [.ref s.heap.size])) := c2.trans (st3 _ (Steps.refl _))
  have c5 : Steps p.tables e below (s₁.setTop (entryFrame m #[.ref b, .int (Int32.ofNat o), .int (Int32.ofNat len)] 6)) (T3.setTop (mkF m 9 #[.val (.ref b), .val (.int (Int32.ofNat o)), .val (.int (Int32.ofNat len)), .val (.ref s.heap.size), .unset, .unset] [.int (Int32.ofNat len), .int 0, .ref s.heap.size, .int (Int32.ofNat o), .ref b])) := c4.trans (by
    refine XS.astoreN X3.here hexec rfl (hb hbytes d3) rfl rfl rfl ?_
    refine XS.aloadN X3.here hexec rfl (hb hbytes d4) rfl rfl ?_
    refine XS.iloadN X3.here hexec rfl (hb hbytes d5) rfl ?_
    refine XS.aloadN X3.here hexec rfl (hb hbytes d6) rfl rfl ?_
    refine iconstV X3.here hexec rfl 0 (hb hbytes d7) (by decide) ?_
    refine XS.iloadN X3.here hexec rfl (hb hbytes d8) rfl ?_
    exact Steps.refl _)
  obtain ⟨v6, T6, X6, E6, g6⟩ := X3.callS hexec (Cmp5.law l b A s.heap.size B3 o 0 len) hown (wks W (staticW U16 115 Cmp5.yN)) (wk W Cmp5.tab) (W := 0) (Nat.le_of_ble_eq_true rfl) (Nat.le_of_ble_eq_true rfl) (Nat.le_refl _) (by show 0 + len + 0 ≤ len; omega) (g := (mkF m 9 #[.val (.ref b), .val (.int (Int32.ofNat o)), .val (.int (Int32.ofNat len)), .val (.ref s.heap.size), .unset, .unset] [.int (Int32.ofNat len), .int (Int32.ofNat 0), .ref s.heap.size, .int (Int32.ofNat o), .ref b])) rfl (by rw [hml]; rfl) c5 (argsL := [.ref b, .int (Int32.ofNat o), .ref s.heap.size, .int (Int32.ofNat 0), .int (Int32.ofNat len)]) (rest := []) rfl rfl (by show 2 * 0 + 0 ≤ _; decide) (hb hbytes d9) (⟨rfl, hA3, ba3, hne, l1, by rw [bs3]; simp, hp⟩)
  obtain ⟨rfl, B6, p6, f6⟩ := E6
  have c7 : Steps p.tables e below (s₁.setTop (entryFrame m #[.ref b, .int (Int32.ofNat o), .int (Int32.ofNat len)] 6)) (T6.setTop (mkF m 12 #[.val (.ref b), .val (.int (Int32.ofNat o)), .val (.int (Int32.ofNat len)), .val (.ref s.heap.size), .unset, .unset] [.int (Int32.ofNat len)])) := g6
  have c8 : Steps p.tables e below (s₁.setTop (entryFrame m #[.ref b, .int (Int32.ofNat o), .int (Int32.ofNat len)] 6)) (T6.setTop (mkF m 58 #[.val (.ref b), .val (.int (Int32.ofNat o)), .val (.int (Int32.ofNat len)), .val (.ref s.heap.size), .val (.int (Int32.ofNat len)), .unset] [.ref s.heap.size])) := c7.trans (by
    refine XS.istore X6.here hexec rfl (hb hbytes d12) rfl rfl ?_
    refine XS.iload X6.here hexec rfl (hb hbytes d14) rfl ?_
    refine XS.iloadN X6.here hexec rfl (hb hbytes d16) rfl ?_
    refine XS.icmpYes X6.here hexec rfl (pc0 := 17) rfl (hb hbytes d17) rfl (ii_eq_t rfl) (by decide) rfl ?_
    refine XS.aloadN X6.here hexec rfl (hb hbytes d57) rfl rfl ?_
    exact Steps.refl _)
  have X8 := X6.wide (L' := []) (cells' := 1) (slots' := len) (fun x hx hlt => by
    simp only [List.nil_append, copyLocs, List.mem_map, List.mem_range] at hx
    obtain ⟨i, -, rfl⟩ := hx
    exact absurd hlt (Nat.lt_irrefl _)) (Nat.le_refl _) (by omega)
  exact ⟨T6, some (.ref s.heap.size), _, _, _, X8, rfl, rfl, rfl, (fun h => by cases h), ⟨⟨rfl, B6, ba3.like (X3.warmed.alike.symm.trans X6.warmed.alike) p6.1 f6.1 f6.2.1 f6.2.2.1, f6.2.1.trans bv3, by rw [X6.warmed.alike.findClass, f6.1]; exact bf3, by rw [f6.2.2.1, bs3]; simp, fun j hj => by rw [f6.2.2.2 j, if_pos (by omega)]; rfl, kp3.put p6 (Nat.le_refl _)⟩, by rw [p6.2.2, bh3, hh0]; simp⟩, fun fs hl => c8.trans (X8.areturnOut hexec rfl hret rfl (hb hbytes d58) hl)⟩
end Cmp3
namespace CodL
def yN : MethodName := ⟨"java/lang/StringUTF16", "coderFromArrayLen", "([BI)B"⟩
abbrev yB : ByteArray := jdk_52_method_15_code
theorem d0 : decode yB 0 = .ok (.iload_n 1, 1) := by decide +kernel
theorem d1 : decode yB 1 = .ok (.aload_n 0, 1) := by decide +kernel
theorem d2 : decode yB 2 = .ok (.arraylength, 1) := by decide +kernel
theorem d3 : decode yB 3 = .ok (.isub, 1) := by decide +kernel
theorem d4 : decode yB 4 = .ok (.bipush 31, 2) := by decide +kernel
theorem d6 : decode yB 6 = .ok (.iushr, 1) := by decide +kernel
theorem d7 : decode yB 7 = .ok (.i2b, 1) := by decide +kernel
theorem d8 : decode yB 8 = .ok (.ireturn, 1) := by decide +kernel
def site : List Cond := []
def tab : Cond := tabOf yN yB 2 (some .byte) site
def P (d : Addr) (B : Cell) (args : Array Value) (s : State) : Prop := args = #[.ref d, .int (Int32.ofNat B.slots.size)] ∧ Arr .byte d B s
def E (r : Option Value) (s u : State) : Prop := XT.PureE (some (.int 0)) r s u
/-- an array as long as the number of chars: LATIN1 -/
theorem law (l : Launch) (d : Addr) (B : Cell) : Law l yN 2 2 0 0 yB 2 (some .byte) site (P d B) E [] 0 0 := by
  refine Law.of_walk (plainFor_of_name (by decide +kernel)) (by decide +kernel) (by decide +kernel) (by decide) (fun _ _ h => by rw [h.1]; rfl) (fun _ U U' hal hh h => ⟨h.1, h.2.mv hal hh⟩) (fun r U U' V V' h1 hal h2 h => XT.PureE.mv r U U' V V' h1 hal h2 h) ?_
  intro p e s m args below meth c s₁ X0 hexec hbytes hml hret hlk hnm hown hh0 W hP
  obtain ⟨rfl, hB⟩ := hP
  have hB0 := hB.mv X0.warmed.alike hh0
  have c1 : Steps p.tables e below (s₁.setTop (entryFrame m #[.ref d, .int (Int32.ofNat B.slots.size)] 2)) (s₁.setTop (mkF m 0 #[.val (.ref d), .val (.int (Int32.ofNat B.slots.size))] [])) := entry rfl
  have c2 : Steps p.tables e below (s₁.setTop (entryFrame m #[.ref d, .int (Int32.ofNat B.slots.size)] 2)) (s₁.setTop (mkF m 2 #[.val (.ref d), .val (.int (Int32.ofNat B.slots.size))] [.ref d, .int (Int32.ofNat B.slots.size)])) := c1.trans (by
    refine XS.iloadN X0.here hexec rfl (hb hbytes d0) rfl ?_
    refine XS.aloadN X0.here hexec rfl (hb hbytes d1) rfl rfl ?_
    exact Steps.refl _)
  have c3 : Steps p.tables e below (s₁.setTop (entryFrame m #[.ref d, .int (Int32.ofNat B.slots.size)] 2)) (s₁.setTop (mkF m 8 #[.val (.ref d), .val (.int (Int32.ofNat B.slots.size))] [.int (lo8 (ushr (Int32.ofNat B.slots.size - Int32.ofNat B.slots.size) 31))])) := c2.trans (by
    refine X0.alen hexec hB0 rfl rfl (hb hbytes d2) ?_
    refine XS.isub X0.here hexec rfl (hb hbytes d3) rfl ?_
    refine bipushV X0.here hexec rfl 31 (hb hbytes d4) (by decide) ?_
    refine iushr X0.here hexec rfl (hb hbytes d6) rfl ?_
    refine i2b X0.here hexec rfl (hb hbytes d7) rfl ?_
    exact Steps.refl _)
  have e0 : lo8 (ushr (Int32.ofNat B.slots.size - Int32.ofNat B.slots.size) 31) = 0 := by rw [Int32.sub_self]; decide
  rw [e0] at c3
  exact ⟨s₁, some (.int 0), _, _, _, X0, rfl, rfl, rfl, (fun h => by cases h), ⟨rfl, hh0⟩, fun fs hl => c3.trans (X0.ireturnOut hexec hret rfl (Or.inr (Or.inr (Or.inl rfl))) (hb hbytes d8) hl)⟩
end CodL
/-- the String at a is Latin-1 over a new byte[] (the heap's one new cell): the low bytes of the len chars of A from o on; every cell but a is kept -/
def Got (a : Addr) (D : Cell) (fV fC : Field) (A : Cell) (o len : Nat) (r : Option Value) (s u : State) : Prop := r = none ∧ ∃ D' V : Cell, Blank "java/lang/String" a D' u ∧ Same D D' [fV.slot, fC.slot] ∧ D'.slots[fV.slot]? = some (.ref s.heap.size) ∧ D'.slots[fC.slot]? = some (.int 0) ∧ Arr .byte s.heap.size V u ∧ V.vm = .none ∧ u.vm.findClass "[B" = some V.cls ∧ V.slots.size = len ∧ (∀ j, j < len → V.slots[j]? = some (.int (lo8 (cv A (o + j))))) ∧ (∀ (y : Addr) (c : Cell), y ≠ a → s.heap[y]? = some c → u.heap[y]? = some c) ∧ u.heap.size = s.heap.size + 1
theorem Got.mv {a : Addr} {D A : Cell} {fV fC : Field} {o len : Nat} : ∀ r (U U' V V' : State), U'.heap = U.heap → V.vm.Alike V'.vm → V'.heap = V.heap → Got a D fV fC A o len r U V → Got a D fV fC A o len r U' V' :=
  fun r U U' V V' h1 hal h2 ⟨e0, D', X, a1, a2, a3, a4, a5, a6, a7, a8, a9, a10, a11⟩ => ⟨e0, D', X, a1.mv hal h2, a2, by rw [h1]; exact a3, a4, by rw [h1]; exact a5.mv hal h2, a6, by rw [hal.findClass]; exact a7, a8, a9, by rw [h1, h2]; exact a10, by rw [h1, h2]; exact a11⟩
namespace New4
def yN : MethodName := ⟨"java/lang/String", "<init>", "([CIILjava/lang/Void;)V"⟩
abbrev yB : ByteArray := jdk_42_method_149_code
theorem d0 : decode yB 0 = .ok (.aload_n 0, 1) := by decide +kernel
theorem d1 : decode yB 1 = .ok (.invokespecial 1, 3) := by decide +kernel
theorem d4 : decode yB 4 = .ok (.iload_n 3, 1) := by decide +kernel
theorem d5 : decode yB 5 = .ok (.ifCond (.ne) 22, 3) := by decide +kernel
theorem d27 : decode yB 27 = .ok (.getstatic 38, 3) := by decide +kernel
theorem d30 : decode yB 30 = .ok (.ifCond (.eq) 28, 3) := by decide +kernel
theorem d33 : decode yB 33 = .ok (.aload_n 1, 1) := by decide +kernel
theorem d34 : decode yB 34 = .ok (.iload_n 2, 1) := by decide +kernel
theorem d35 : decode yB 35 = .ok (.iload_n 3, 1) := by decide +kernel
theorem d36 : decode yB 36 = .ok (.invokestatic 177, 3) := by decide +kernel
theorem d39 : decode yB 39 = .ok (.astore 5, 2) := by decide +kernel
theorem d41 : decode yB 41 = .ok (.aload_n 0, 1) := by decide +kernel
theorem d42 : decode yB 42 = .ok (.aload 5, 2) := by decide +kernel
theorem d44 : decode yB 44 = .ok (.iload_n 3, 1) := by decide +kernel
theorem d45 : decode yB 45 = .ok (.invokestatic 47, 3) := by decide +kernel
theorem d48 : decode yB 48 = .ok (.putfield 15, 3) := by decide +kernel
theorem d51 : decode yB 51 = .ok (.aload_n 0, 1) := by decide +kernel
theorem d52 : decode yB 52 = .ok (.aload 5, 2) := by decide +kernel
theorem d54 : decode yB 54 = .ok (.putfield 9, 3) := by decide +kernel
theorem d57 : decode yB 57 = .ok (.return_, 1) := by decide +kernel
def site : List Cond := [.fieldLink "java/lang/String" 38 "java/lang/String" "COMPACT_STRINGS" "Z", Cmp3.tab, CodL.tab, .laysFinal "java/lang/String" "java/lang/String" "value" "[B", .fieldLink "java/lang/String" 9 "java/lang/String" "value" "[B", .laysFinal "java/lang/String" "java/lang/String" "coder" "B", .fieldLink "java/lang/String" 15 "java/lang/String" "coder" "B"] ++ objW "java/lang/String" 1 ++ staticW "java/lang/String" 177 Cmp3.yN ++ staticW "java/lang/String" 47 CodL.yN
def tab : Cond := tabOf yN yB 6 none site
def P (a : Addr) (D : Cell) (fV fC : Field) (b : Addr) (A : Cell) (z : Int32) (o len : Nat) (args : Array Value) (s : State) : Prop := args = #[.ref a, .ref b, .int (Int32.ofNat o), .int (Int32.ofNat len), .null] ∧ Blank "java/lang/String" a D s ∧ Found "java/lang/String" "value" "[B" fV s ∧ Found "java/lang/String" "coder" "B" fC s ∧ Ch b A s ∧ StaticIs s "java/lang/String" "COMPACT_STRINGS" "Z" (.int z) ∧ ¬ z = 0 ∧ 0 < len ∧ o + len ≤ A.slots.size ∧ len ≤ 536870912 ∧ ∀ i, i < len → ¬ 255 < cv A (o + i)
def E (a : Addr) (D : Cell) (fV fC : Field) (A : Cell) (o len : Nat) (r : Option Value) (s u : State) : Prop := Got a D fV fC A o len r s u
/-- len > 0, no char of the range above 255: a Latin-1 String of their low bytes -/
theorem law (l : Launch) (a : Addr) (D : Cell) (fV fC : Field) (b : Addr) (A : Cell) (z : Int32) (o len : Nat) : Law l yN 5 4 2 35 yB 6 none site (P a D fV fC b A z o len) (E a D fV fC A o len) [⟨a, fC.slot⟩, ⟨a, fV.slot⟩] 1 len := by
  refine Law.of_walk (plainFor_of_name (by decide +kernel)) (by decide +kernel) (by decide +kernel) (by decide) (fun _ _ h => by rw [h.1]; rfl) (fun _ U U' hal hh h => ⟨h.1, h.2.1.mv hal hh, h.2.2.1.al hal, h.2.2.2.1.al hal, h.2.2.2.2.1.mv hal hh, h.2.2.2.2.2.1.there hal hh, h.2.2.2.2.2.2⟩) (fun r U U' V V' h1 hal h2 h => Got.mv r U U' V V' h1 hal h2 h) ?_
  intro p e s m args below meth c s₁ X0 hexec hbytes hml hret hlk hnm hown hh0 W hP
  obtain ⟨rfl, hB, f1, f2, hA, s1, hz, l0, l1, l2, hp⟩ := hP
  have a31 := hA.1.2.2.2
  have c1 : Steps p.tables e below (s₁.setTop (entryFrame m #[.ref a, .ref b, .int (Int32.ofNat o), .int (Int32.ofNat len), .null] 6)) (s₁.setTop (mkF m 0 #[.val (.ref a), .val (.ref b), .val (.int (Int32.ofNat o)), .val (.int (Int32.ofNat len)), .val .null, .unset] [])) := entry rfl
  have c2 : Steps p.tables e below (s₁.setTop (entryFrame m #[.ref a, .ref b, .int (Int32.ofNat o), .int (Int32.ofNat len), .null] 6)) (s₁.setTop (mkF m 1 #[.val (.ref a), .val (.ref b), .val (.int (Int32.ofNat o)), .val (.int (Int32.ofNat len)), .val .null, .unset] [.ref a])) := c1.trans (by
    refine XS.aloadN X0.here hexec rfl (hb hbytes d0) rfl rfl ?_
    exact Steps.refl _)
  obtain ⟨T3, X3, q3, st3⟩ := X0.oinit hexec hown (wks W (objW "java/lang/String" 1)) (g := (mkF m 1 #[.val (.ref a), .val (.ref b), .val (.int (Int32.ofNat o)), .val (.int (Int32.ofNat len)), .val .null, .unset] [.ref a])) rfl (by rw [hml]; rfl) (rest := []) rfl (hb hbytes d1) (W := 0) (by show 2 * 0 + 0 ≤ _; decide) (Nat.le_of_ble_eq_true rfl) (Nat.le_of_ble_eq_true rfl)
  have hh3 := q3.trans hh0
  have c4 : Steps p.tables e below (s₁.setTop (entryFrame m #[.ref a, .ref b, .int (Int32.ofNat o), .int (Int32.ofNat len), .null] 6)) (T3.setTop (mkF m 27 #[.val (.ref a), .val (.ref b), .val (.int (Int32.ofNat o)), .val (.int (Int32.ofNat len)), .val .null, .unset] [])) := (c2.trans (st3 _ (Steps.refl _))).trans (by
    refine XS.iloadN X3.here hexec rfl (hb hbytes d4) rfl ?_
    refine XS.ifYes X3.here hexec rfl (pc0 := 5) rfl (hb hbytes d5) rfl (i0_ne_t (nz32 (by omega) l0)) (by decide) rfl ?_
    exact Steps.refl _)
  obtain ⟨T5, X5, q5, st5⟩ := X3.sget hexec hown (wk W (.fieldLink "java/lang/String" 38 "java/lang/String" "COMPACT_STRINGS" "Z")) s1 (fun _ _ h => by rw [hh3]; exact h) (g := (mkF m 27 #[.val (.ref a), .val (.ref b), .val (.int (Int32.ofNat o)), .val (.int (Int32.ofNat len)), .val .null, .unset] [])) rfl (hb hbytes d27)
  have hh5 := q5.trans hh3
  have c6 : Steps p.tables e below (s₁.setTop (entryFrame m #[.ref a, .ref b, .int (Int32.ofNat o), .int (Int32.ofNat len), .null] 6)) (T5.setTop (mkF m 30 #[.val (.ref a), .val (.ref b), .val (.int (Int32.ofNat o)), .val (.int (Int32.ofNat len)), .val .null, .unset] [.int z])) := c4.trans (st5 _ (Steps.refl _))
  have c7 : Steps p.tables e below (s₁.setTop (entryFrame m #[.ref a, .ref b, .int (Int32.ofNat o), .int (Int32.ofNat len), .null] 6)) (T5.setTop (mkF m 36 #[.val (.ref a), .val (.ref b), .val (.int (Int32.ofNat o)), .val (.int (Int32.ofNat len)), .val .null, .unset] [.int (Int32.ofNat len), .int (Int32.ofNat o), .ref b])) := c6.trans (by
    refine XS.ifNo X5.here hexec rfl (hb hbytes d30) rfl (i0_eq_f hz) ?_
    refine XS.aloadN X5.here hexec rfl (hb hbytes d33) rfl rfl ?_
    refine XS.iloadN X5.here hexec rfl (hb hbytes d34) rfl ?_
    refine XS.iloadN X5.here hexec rfl (hb hbytes d35) rfl ?_
    exact Steps.refl _)
  obtain ⟨v8, T8, X8, E8, g8⟩ := X5.callS hexec (Cmp3.law l b A o len) hown (wks W (staticW "java/lang/String" 177 Cmp3.yN)) (wk W Cmp3.tab) (W := 0) (Nat.le_of_ble_eq_true rfl) (Nat.le_of_ble_eq_true rfl) (Nat.le_refl _) (by show 0 + len ≤ len; omega) (g := (mkF m 36 #[.val (.ref a), .val (.ref b), .val (.int (Int32.ofNat o)), .val (.int (Int32.ofNat len)), .val .null, .unset] [.int (Int32.ofNat len), .int (Int32.ofNat o), .ref b])) rfl (by rw [hml]; rfl) c7 (argsL := [.ref b, .int (Int32.ofNat o), .int (Int32.ofNat len)]) (rest := []) rfl rfl (by show 2 * 0 + 0 ≤ _; decide) (hb hbytes d36) (⟨rfl, hA.mv X5.warmed.alike hh5, l1, l2, hp⟩)
  obtain ⟨e8, z8⟩ := E8
  obtain ⟨rfl, N, n1, n2, n3, n4, n5, n6⟩ := NewArr.mv _ T5 s _ _ hh5.symm (Vm.Alike.refl _) rfl e8
  rw [hh5] at z8
  have hB1 := hB.keep X8.warmed.alike (n6 _ _ hB.1)
  have hne : s.heap.size ≠ a := (Nat.ne_of_lt (Array.getElem?_eq_some_iff.mp hB.1).1).symm
  have c9 : Steps p.tables e below (s₁.setTop (entryFrame m #[.ref a, .ref b, .int (Int32.ofNat o), .int (Int32.ofNat len), .null] 6)) (T8.setTop (mkF m 39 #[.val (.ref a), .val (.ref b), .val (.int (Int32.ofNat o)), .val (.int (Int32.ofNat len)), .val .null, .unset] [.ref s.heap.size])) := g8
  have c10 : Steps p.tables e below (s₁.setTop (entryFrame m #[.ref a, .ref b, .int (Int32.ofNat o), .int (Int32.ofNat len), .null] 6)) (T8.setTop (mkF m 45 #[.val (.ref a), .val (.ref b), .val (.int (Int32.ofNat o)), .val (.int (Int32.ofNat len)), .val .null, .val (.ref s.heap.size)] [.int (Int32.ofNat N.slots.size), .ref s.heap.size, .ref a])) := by
    have hc : Steps p.tables e below (s₁.setTop (entryFrame m #[.ref a, .ref b, .int (Int32.ofNat o), .int (Int32.ofNat len), .null] 6)) (T8.setTop (mkF m 45 #[.val (.ref a), .val (.ref b), .val (.int (Int32.ofNat o)), .val (.int (Int32.ofNat len)), .val .null, .val (.ref s.heap.size)] [.int (Int32.ofNat len), .ref s.heap.size, .ref a])) := c9.trans (by
      refine XS.astore X8.here hexec rfl (hb hbytes d39) rfl rfl rfl ?_
      refine XS.aloadN X8.here hexec rfl (hb hbytes d41) rfl rfl ?_
      refine XS.aload X8.here hexec rfl (hb hbytes d42) rfl rfl ?_
      refine XS.iloadN X8.here hexec rfl (hb hbytes d44) rfl ?_
      exact Steps.refl _)
    rw [n4]; exact hc
  obtain ⟨v11, T11, X11, E11, g11⟩ := X8.callS hexec (CodL.law l s.heap.size N) hown (wks W (staticW "java/lang/String" 47 CodL.yN)) (wk W CodL.tab) (W := 1) (Nat.le_of_ble_eq_true rfl) (Nat.le_of_ble_eq_true rfl) (Nat.le_refl _) (by show 0 + len + 0 ≤ len; omega) (g := (mkF m 45 #[.val (.ref a), .val (.ref b), .val (.int (Int32.ofNat o)), .val (.int (Int32.ofNat len)), .val .null, .val (.ref s.heap.size)] [.int (Int32.ofNat N.slots.size), .ref s.heap.size, .ref a])) rfl (by rw [hml]; rfl) c10 (argsL := [.ref s.heap.size, .int (Int32.ofNat N.slots.size)]) (rest := [.ref a]) rfl rfl (by show 2 * 0 + (1 + 0) ≤ _; decide) (hb hbytes d45) (⟨rfl, n1⟩)
  obtain ⟨rfl, q11⟩ := E11
  have hB11 := hB1.mv (X8.warmed.alike.symm.trans X11.warmed.alike) q11
  have c12 : Steps p.tables e below (s₁.setTop (entryFrame m #[.ref a, .ref b, .int (Int32.ofNat o), .int (Int32.ofNat len), .null] 6)) (T11.setTop (mkF m 48 #[.val (.ref a), .val (.ref b), .val (.int (Int32.ofNat o)), .val (.int (Int32.ofNat len)), .val .null, .val (.ref s.heap.size)] [.int 0, .ref a])) := g11
  obtain ⟨T13, X13, p13, bl13, sl13, st13⟩ := X11.finit hexec hown (wk W (.fieldLink "java/lang/String" 15 "java/lang/String" "coder" "B")) (Or.inr ⟨_, (wk W (.laysFinal "java/lang/String" "java/lang/String" "coder" "B"))⟩) (Or.inl ⟨rfl, hnm⟩) f2 (Or.inl rfl) hB11 (t := .byte) (by decide +kernel) rfl (g := (mkF m 48 #[.val (.ref a), .val (.ref b), .val (.int (Int32.ofNat o)), .val (.int (Int32.ofNat len)), .val .null, .val (.ref s.heap.size)] [.int 0, .ref a])) rfl (rest := []) rfl (hb hbytes d48)
  have c14 : Steps p.tables e below (s₁.setTop (entryFrame m #[.ref a, .ref b, .int (Int32.ofNat o), .int (Int32.ofNat len), .null] 6)) (T13.setTop (mkF m 54 #[.val (.ref a), .val (.ref b), .val (.int (Int32.ofNat o)), .val (.int (Int32.ofNat len)), .val .null, .val (.ref s.heap.size)] [.ref s.heap.size, .ref a])) := (c12.trans (st13 _ (Steps.refl _))).trans (by
    refine XS.aloadN X13.here hexec rfl (hb hbytes d51) rfl rfl ?_
    refine XS.aload X13.here hexec rfl (hb hbytes d52) rfl rfl ?_
    exact Steps.refl _)
  obtain ⟨T15, X15, p15, bl15, sl15, st15⟩ := X13.finit hexec hown (wk W (.fieldLink "java/lang/String" 9 "java/lang/String" "value" "[B")) (Or.inr ⟨_, (wk W (.laysFinal "java/lang/String" "java/lang/String" "value" "[B"))⟩) (Or.inl ⟨rfl, hnm⟩) f1 (Or.inl rfl) bl13 (t := (.array .byte)) (by decide +kernel) rfl (g := (mkF m 54 #[.val (.ref a), .val (.ref b), .val (.int (Int32.ofNat o)), .val (.int (Int32.ofNat len)), .val .null, .val (.ref s.heap.size)] [.ref s.heap.size, .ref a])) rfl (rest := []) rfl (hb hbytes d54)
  have c16 : Steps p.tables e below (s₁.setTop (entryFrame m #[.ref a, .ref b, .int (Int32.ofNat o), .int (Int32.ofNat len), .null] 6)) (T15.setTop (mkF m 57 #[.val (.ref a), .val (.ref b), .val (.int (Int32.ofNat o)), .val (.int (Int32.ofNat len)), .val .null, .val (.ref s.heap.size)] [])) := c14.trans (st15 _ (Steps.refl _))
  have ap := apart (Or.inr ⟨_, (wk W (.laysFinal "java/lang/String" "java/lang/String" "value" "[B"))⟩) (Or.inr ⟨_, (wk W (.laysFinal "java/lang/String" "java/lang/String" "coder" "B"))⟩) f1 f2 (t₁ := .array .byte) (t₂ := .byte) (by decide +kernel) (by decide +kernel) (by decide)
  have al := X8.warmed.alike.symm.trans X15.warmed.alike
  have n7 : T11.heap[s.heap.size]? = some N := by rw [q11]; exact n1.1
  exact ⟨T15, none, _, _, _, X15, by simp, rfl, by omega, (fun _ => rfl), ⟨rfl, _, N, bl15, ((Same.refl D _).set _ (by simp)).set _ (by simp), sl15, (Cell.slots_setSlot_ne _ ap).trans sl13, n1.keep al (p15.other hne (p13.other hne n7)), n2, by rw [al.findClass]; exact n3, n4, n5, fun y c h1 h2 => p15.other h1 (p13.other h1 (by rw [q11]; exact n6 y c h2)), by rw [p15.2.2, p13.2.2, q11]; exact z8⟩, fun fs hl => c16.trans (X15.returnOut hexec hret (hb hbytes d57) hl)⟩
end New4
namespace New1
def yN : MethodName := ⟨"java/lang/String", "<init>", "([C)V"⟩
abbrev yB : ByteArray := jdk_42_method_3_code
theorem d0 : decode yB 0 = .ok (.aload_n 0, 1) := by decide +kernel
theorem d1 : decode yB 1 = .ok (.aload_n 1, 1) := by decide +kernel
theorem d2 : decode yB 2 = .ok (.iconst 0, 1) := by decide +kernel
theorem d3 : decode yB 3 = .ok (.aload_n 1, 1) := by decide +kernel
theorem d4 : decode yB 4 = .ok (.arraylength, 1) := by decide +kernel
theorem d5 : decode yB 5 = .ok (.aconst_null, 1) := by decide +kernel
theorem d6 : decode yB 6 = .ok (.invokespecial 27, 3) := by decide +kernel
theorem d9 : decode yB 9 = .ok (.return_, 1) := by decide +kernel
def site : List Cond := [New4.tab] ++ initW "java/lang/String" 27 New4.yN
def tab : Cond := tabOf yN yB 2 none site
def P (a : Addr) (D : Cell) (fV fC : Field) (b : Addr) (A : Cell) (z : Int32) (args : Array Value) (s : State) : Prop := args = #[.ref a, .ref b] ∧ Blank "java/lang/String" a D s ∧ Found "java/lang/String" "value" "[B" fV s ∧ Found "java/lang/String" "coder" "B" fC s ∧ Ch b A s ∧ StaticIs s "java/lang/String" "COMPACT_STRINGS" "Z" (.int z) ∧ ¬ z = 0 ∧ 0 < A.slots.size ∧ A.slots.size ≤ 536870912 ∧ ∀ i, i < A.slots.size → ¬ 255 < cv A i
def E (a : Addr) (D : Cell) (fV fC : Field) (A : Cell) (r : Option Value) (s u : State) : Prop := Got a D fV fC A 0 A.slots.size r s u
/-- new String(chars), not empty, no char above 255: a Latin-1 String of their low bytes -/
theorem law (l : Launch) (a : Addr) (D : Cell) (fV fC : Field) (b : Addr) (A : Cell) (z : Int32) : Law l yN 2 1 3 52 yB 2 none site (P a D fV fC b A z) (E a D fV fC A) [⟨a, fC.slot⟩, ⟨a, fV.slot⟩] 1 A.slots.size := by
  refine Law.of_walk (plainFor_of_name (by decide +kernel)) (by decide +kernel) (by decide +kernel) (by decide) (fun _ _ h => by rw [h.1]; rfl) (fun _ U U' hal hh h => ⟨h.1, h.2.1.mv hal hh, h.2.2.1.al hal, h.2.2.2.1.al hal, h.2.2.2.2.1.mv hal hh, h.2.2.2.2.2.1.there hal hh, h.2.2.2.2.2.2⟩) (fun r U U' V V' h1 hal h2 h => Got.mv r U U' V V' h1 hal h2 h) ?_
  intro p e s m args below meth c s₁ X0 hexec hbytes hml hret hlk hnm hown hh0 W hP
  obtain ⟨rfl, hB, f1, f2, hA, s1, hz, l0, l2, hp⟩ := hP
  have c1 : Steps p.tables e below (s₁.setTop (entryFrame m #[.ref a, .ref b] 2)) (s₁.setTop (mkF m 0 #[.val (.ref a), .val (.ref b)] [])) := entry rfl
  have c2 : Steps p.tables e below (s₁.setTop (entryFrame m #[.ref a, .ref b] 2)) (s₁.setTop (mkF m 6 #[.val (.ref a), .val (.ref b)] [.null, .int (Int32.ofNat A.slots.size), .int 0, .ref b, .ref a])) := c1.trans (by
    refine XS.aloadN X0.here hexec rfl (hb hbytes d0) rfl rfl ?_
    refine XS.aloadN X0.here hexec rfl (hb hbytes d1) rfl rfl ?_
    refine iconstV X0.here hexec rfl 0 (hb hbytes d2) (by decide) ?_
    refine XS.aloadN X0.here hexec rfl (hb hbytes d3) rfl rfl ?_
    refine X0.alen hexec (hA.1.mv X0.warmed.alike hh0) rfl rfl (hb hbytes d4) ?_
    refine XS.aconstNull X0.here hexec rfl (hb hbytes d5) ?_
    exact Steps.refl _)
  obtain ⟨v3, T3, X3, E3, g3⟩ := X0.callN hexec (New4.law l a D fV fC b A z 0 A.slots.size) rfl hown (wks W (initW "java/lang/String" 27 New4.yN)) (W New4.tab (by simp only [site, List.mem_cons, List.mem_append, true_or, or_true])) (W := 0) (Nat.le_of_ble_eq_true rfl) (Nat.le_of_ble_eq_true rfl) (Nat.le_refl _) (by show 0 + A.slots.size ≤ A.slots.size; omega) (g := (mkF m 6 #[.val (.ref a), .val (.ref b)] [.null, .int (Int32.ofNat A.slots.size), .int (Int32.ofNat 0), .ref b, .ref a])) rfl (by rw [hml]; rfl) c2 (argsL := [.ref b, .int (Int32.ofNat 0), .int (Int32.ofNat A.slots.size), .null]) (rest := []) rfl rfl (by show 2 * 0 + 0 ≤ _; decide) (hb hbytes d6) (⟨rfl, hB.mv X0.warmed.alike hh0, f1.al X0.warmed.alike, f2.al X0.warmed.alike, hA.mv X0.warmed.alike hh0, s1.there X0.warmed.alike hh0, hz, l0, by omega, l2, fun i hi => by rw [Nat.zero_add]; exact hp i hi⟩)
  have e0 := Got.mv _ s₁ s _ _ hh0.symm (Vm.Alike.refl _) rfl E3
  obtain rfl := e0.1
  have c4 : Steps p.tables e below (s₁.setTop (entryFrame m #[.ref a, .ref b] 2)) (T3.setTop (mkF m 9 #[.val (.ref a), .val (.ref b)] [])) := g3
  exact ⟨T3, none, _, _, _, X3, by simp, rfl, by omega, (fun _ => rfl), e0, fun fs hl => c4.trans (X3.returnOut hexec hret (hb hbytes d9) hl)⟩
theorem pays {l : Launch} {R : Room} {p : Program} {e : Env} {below : List Frame} {s : State} {sargs : Array Value} {len W : Nat} (a : Addr) (D : Cell) (fV fC : Field) (b : Addr) (A : Cell) (z : Int32) (htab : tab.before sargs s = true) (hfr : 4 ≤ R.frames) (hlo : W + 65 ≤ R.locals) :
    Back l R p e below s sargs yN len W (fun A₁ a₁ => A₁.cells + 1 ≤ R.cells ∧ A₁.slots + A.slots.size ≤ R.slots ∧ P a D fV fC b A z a₁ A₁.U) (fun A₁ _ v₁ B₁ => E a D fV fC A v₁ A₁.U B₁.U ∧ B₁.locs = A₁.locs ++ [⟨a, fC.slot⟩, ⟨a, fV.slot⟩] ∧ B₁.cells = A₁.cells + 1 ∧ B₁.slots = A₁.slots + A.slots.size) :=
  (law l a D fV fC b A z).pays htab hfr (by omega)
end New1
/-- the byte, read back as charAt reads it, is the char -/
theorem lo8_mask {x : Int32} (h0 : ¬ x < 0) (h1 : ¬ 255 < x) : lo8 x &&& 255 = x := by
  have t : ∀ k : Fin 256, lo8 (Int32.ofNat k.val) &&& 255 = Int32.ofNat k.val := by decide +kernel
  rw [Int32.lt_iff_toInt_lt] at h0 h1
  have e0 : (0 : Int32).toInt = 0 := rfl
  have e1 : (255 : Int32).toInt = 255 := rfl
  obtain ⟨k, hk⟩ : ∃ k : Nat, x.toInt = k := ⟨x.toInt.toNat, by omega⟩
  have hx : x = Int32.ofNat k := Int32.toInt_inj.mp (by rw [hk, Int32.toInt_ofNat_small (by omega)])
  rw [hx]
  exact t ⟨k, by omega⟩
end StrChars
namespace StrChars.Road
open Jvm Sem ClassFile Op Lib Jvm.Stand Jvm.Free Jvm.Free.XT
open Jvm.Lib.Cold (StaticIs)
abbrev ST : String := "java/lang/String"
/-- every table word that New1's law asks, flat -/
abbrev words : List Jvm.Cond := [.code New1.yN New1.yB 2 none, .initialized ST, .methodLink ST 27 New4.yN, .instanceMethod New4.yN,
  .code New4.yN New4.yB 6 none, .fieldLink ST 38 ST "COMPACT_STRINGS" "Z", .laysFinal ST ST "value" "[B", .fieldLink ST 9 ST "value" "[B", .laysFinal ST ST "coder" "B", .fieldLink ST 15 ST "coder" "B",
  .methodLink ST 1 Lib.objectInit, .instanceMethod Lib.objectInit, .code Lib.objectInit ⟨#[0xb1]⟩ 1 none, .methodLink ST 177 Cmp3.yN, .static Cmp3.yN, .methodLink ST 47 CodL.yN, .static CodL.yN,
  .code Cmp3.yN Cmp3.yB 6 (some (.array .byte)), .initialized U16, .arrayClass .byte, .methodLink U16 115 Cmp5.yN, .static Cmp5.yN, .code Cmp5.yN Cmp5.yB 7 (some .int), .code CodL.yN CodL.yB 2 (some .byte)]
theorem tab_of {a : Array Value} {s : State} (h : ∀ w ∈ words, w.before a s = true) : New1.tab.before a s = true := by
  have h5 : Cmp5.tab.before a s = true := unparts (wk h (.code Cmp5.yN Cmp5.yB 7 (some .int))) (wks h (.initialized Cmp5.yN.cls :: Cmp5.site))
  have hc : CodL.tab.before a s = true := unparts (wk h (.code CodL.yN CodL.yB 2 (some .byte))) (wks h (.initialized CodL.yN.cls :: CodL.site))
  have q5 : ∀ w ∈ Cmp5.tab :: words, w.before a s = true := fun w hw => (List.mem_cons.mp hw).elim (fun e => e ▸ h5) (h w)
  have h3 : Cmp3.tab.before a s = true := unparts (wk q5 (.code Cmp3.yN Cmp3.yB 6 (some (.array .byte)))) (wks q5 (.initialized Cmp3.yN.cls :: Cmp3.site))
  have q3 : ∀ w ∈ Cmp3.tab :: CodL.tab :: words, w.before a s = true := fun w hw => (List.mem_cons.mp hw).elim (fun e => e ▸ h3) fun hw => (List.mem_cons.mp hw).elim (fun e => e ▸ hc) (h w)
  have h4 : New4.tab.before a s = true := unparts (wk q3 (.code New4.yN New4.yB 6 none)) (wks q3 (.initialized New4.yN.cls :: New4.site))
  have q4 : ∀ w ∈ New4.tab :: words, w.before a s = true := fun w hw => (List.mem_cons.mp hw).elim (fun e => e ▸ h4) (h w)
  exact unparts (wk q4 (.code New1.yN New1.yB 2 none)) (wks q4 (.initialized New1.yN.cls :: New1.site))
/-- the words ride from the start Z to the walk's own state -/
theorem moved {Z s : State} {a0 args : Array Value} (hZ : Z.Warmed39 s.vm) (hw : ∀ d ∈ words, d.before a0 Z = true) : ∀ d ∈ words, d.before args s = true := fun d hd => by
  have q := hw d hd
  have t : ∀ d ∈ words, d = .arrayClass .byte ∨ (d.onTables && d.keepsFace) = true := by decide +kernel
  rcases t d hd with rfl | t
  · exact RoadKit.mvA hZ q
  · exact RoadKit.mv hZ q t
/-- WHAT COMES BACK, over the tables of the start Z: h the heap at the call, h' behind it -/
def Q (Z : State) (x : Addr) (A : Cell) (h : Heap) (v : Option Value) (h' : Heap) (L : List Loc) : Prop := v = none ∧ (∀ y ∈ L, y.base = x) ∧ RoadKit.Keep h h' [x] ∧ h'.size = h.size + 1 ∧ RoadKit.Exa Z h' x ST ∧ RoadKit.Fld Z h' x ST "value" "[B" (.ref h.size) ∧ RoadKit.Fld Z h' x ST "coder" "B" (.int 0) ∧
  (∃ V : Cell, RoadKit.Arr Z h' h.size V .byte ∧ V.vm = .none ∧ Z.vm.findClass "[B" = some V.cls ∧ V.slots.size = A.slots.size ∧ ∀ j, j < A.slots.size → V.slots[j]? = some (.int (lo8 (cv A j)))) ∧
  ∀ (O n d : String) (w : Value), RoadKit.Fld Z h x O n d w → RoadKit.slotOf Z O n d ≠ RoadKit.slotOf Z ST "value" "[B" → RoadKit.slotOf Z O n d ≠ RoadKit.slotOf Z ST "coder" "B" → RoadKit.Fld Z h' x O n d w
/-- **new String(chars) AT A CALL, IN THE ROAD'S FORM**: for specialBack behind newO: x the fresh String, b the char[] with the cell A -/
theorem back {p : Program} {l : Launch} {e : Env} {R : Room} {s : State} {args : Array Value} {below : List Frame} {len W : Nat} {Z : State} {a0 : Array Value} {h : Heap} (hZ : Z.Warmed39 s.vm) (hw : ∀ d ∈ words, d.before a0 Z = true) {kI : Nat} (wi : (Jvm.Cond.instantiable ST kI).before a0 Z = true)
    {x b : Addr} {A : Cell} {z : Int32} {v0 c0 : Value} (E : RoadKit.Exa Z h x ST) (V : RoadKit.Fld Z h x ST "value" "[B" v0) (C : RoadKit.Fld Z h x ST "coder" "B" c0) (K : RoadKit.Arr Z h b A .char) (hty : Typed .char A) (S : RoadKit.Sta Z h ST "COMPACT_STRINGS" "Z" (.int z)) (hz : ¬ z = 0)
    (l0 : 0 < A.slots.size) (l2 : A.slots.size ≤ 536870912) (hp : ∀ i, i < A.slots.size → ¬ 255 < cv A i) (hfr : 4 ≤ R.frames) (hlo : W + 65 ≤ R.locals) :
    Back l R p e below s args New1.yN len W (fun P a => a = #[.ref x, .ref b] ∧ P.U.heap = h ∧ P.cells + 1 ≤ R.cells ∧ P.slots + A.slots.size ≤ R.slots)
      (fun P _ v B => ∃ L, Q Z x A h v B.U.heap L ∧ B.locs = P.locs ++ L ∧ B.cells = P.cells + 1 ∧ B.slots = P.slots + A.slots.size) := by
  intro m meth c P g ig mk a X hg hsize hdg hW hn hp'
  obtain ⟨rfl, rfl, r1, r2⟩ := hp'
  have al : Z.vm.Alike P.U.vm := hZ.alike.trans X.warmed.alike
  obtain ⟨D, cfV, kV, iV, fV, hD, gV, stV, knV, obV, asV, slV⟩ := id V
  obtain ⟨D', cfC, kC, iC, fC, hD', gC, stC, -, -, asC, slC⟩ := id C
  cases hD.symm.trans hD'
  obtain ⟨D2, kD, e1, e2, e3, e4, e5⟩ := id E
  cases hD.symm.trans e1
  obtain ⟨c2, k2, i1, i2, i3, -⟩ := Cond.instantiable_spec wi
  cases e2.symm.trans i1
  cases e3.symm.trans i2
  obtain ⟨kU, u1, u2⟩ := al.2.2 _ _ e3
  have hB : Blank ST x D P.U := ⟨hD, ⟨knV, fun q hq => by rw [hq] at obV; cases obV⟩, by rw [al.findClass]; exact e2, kU, u1, by rw [u2]; exact i3, by rw [u2]; exact e5 i3⟩
  have F1 : Found ST "value" "[B" fV P.U := ⟨SBG.found_only al ⟨cfV, kV, iV, gV⟩, stV⟩
  have F2 : Found ST "coder" "B" fC P.U := ⟨SBG.found_only al ⟨cfC, kC, iC, gC⟩, stC⟩
  have hA : Ch b A P.U := ⟨⟨K.1, State.isArrayOf_alike al K.2.1, K.2.2, by omega⟩, hty⟩
  have hS : StaticIs P.U ST "COMPACT_STRINGS" "Z" (.int z) := by
    obtain ⟨cfS, iS, kS, fS, st, cS, t1, t2, t3, t4, t5, t6, t7⟩ := S
    exact StaticIs.there (s := { Z with heap := P.U.heap }) ⟨cfS, iS, kS, fS, st, cS, t1, t2, t3, t4, t5, (fun q => by rw [q] at t6; cases t6), t7⟩ al rfl
  obtain ⟨v, B, X', ⟨⟨hv, E', V', q1, q2, q3, q4, q5, q6, q7, q8, q9, q10, q11⟩, hl, hc, hs⟩, st⟩ := New1.pays x D fV fC b A z (tab_of (moved hZ hw)) hfr hlo m meth c P g ig mk _ X hg hsize hdg hW hn ⟨r1, r2, rfl, hB, F1, F2, hA, hS, hz, l0, l2, hp⟩
  have al' : Z.vm.Alike B.U.vm := hZ.alike.trans X'.warmed.alike
  have hsz : E'.slots.size = D.slots.size := by
    obtain ⟨-, -, -, kB, w1, w2, w3⟩ := q1
    obtain ⟨kB', y1, y2⟩ := al'.2.2 _ _ e3
    rw [q2.2.1] at w1
    cases w1.symm.trans y1
    rw [w3, e5 i3, y2]
  refine ⟨v, B, X', ⟨_, ⟨hv, ?_, ⟨by omega, fun y cy hy hn' => q10 y cy (by simpa using hn') hy, fun y cy hy => ?_⟩, q11, ⟨E', _, q1.1, by rw [q2.2.1]; exact e2, by rw [q2.2.1]; exact e3, by rw [q2.1]; exact obV, fun _ => by rw [hsz]; exact e5 i3⟩,
    ⟨E', cfV, kV, iV, fV, q1.1, gV, stV, by rw [q2.1]; exact knV, by rw [q2.1]; exact obV, by rw [q2.2.1]; exact asV, q3⟩, ⟨E', cfC, kC, iC, fC, q1.1, gC, stC, by rw [q2.1]; exact knV, by rw [q2.1]; exact obV, by rw [q2.2.1]; exact asC, q4⟩,
    ⟨V', ⟨q5.1, State.isArrayOf_alike al'.symm q5.2.1, q5.2.2.1⟩, q6, by rw [← al'.findClass]; exact q7, q8, fun j hj => by have := q9 j hj; rwa [Nat.zero_add] at this⟩, fun O n d w F n1 n2 => ?_⟩, hl, hc, hs⟩, st⟩
  · intro y hy
    simp only [List.mem_cons, List.not_mem_nil, or_false] at hy
    rcases hy with rfl | rfl <;> rfl
  · by_cases q : y = x
    · subst q
      cases hD.symm.trans hy
      exact ⟨E', q1.1, q2.2.1, q2.1, hsz⟩
    · exact ⟨cy, q10 y cy q hy, rfl, rfl, rfl⟩
  · obtain ⟨D3, cf, k, i, f, g1, g2, g3, g4, g5, g6, g7⟩ := F
    cases hD.symm.trans g1
    simp only [RoadKit.slotOf, g2, gV, gC, Option.map_some, Option.getD_some] at n1 n2
    exact ⟨E', cf, k, i, f, q1.1, g2, g3, by rw [q2.1]; exact g4, by rw [q2.1]; exact g5, by rw [q2.2.1]; exact g6, by rw [q2.2.2 f.slot (by simp [n1, n2])]; exact g7⟩
end StrChars.Road
namespace StrChars.Road
open Jvm Sem ClassFile Op Lib Jvm.Stand Jvm.Free Jvm.Free.XT
/-- WHAT COMES BACK, the byte[] as a list of values -/
def QA (Z : State) (x : Addr) (zn : Int32) (cs : List Int32) (h : Heap) (v : Option Value) (h' : Heap) (L : List Loc) : Prop := v = none ∧ (∀ y ∈ L, y.base = x) ∧ RoadKit.Keep h h' [x] ∧ h'.size = h.size + 1 ∧ RoadKit.Exa Z h' x ST ∧ RoadKit.Fld Z h' x ST "value" "[B" (.ref h.size) ∧ RoadKit.Fld Z h' x ST "coder" "B" (.int 0) ∧
  (∃ kb, Z.vm.findClass "[B" = some kb ∧ RoadKit.Arv Z h' h.size kb .byte zn (cs.map fun c => .int (lo8 c)) (.int 0)) ∧
  ∀ (O n d : String) (w : Value), RoadKit.Fld Z h x O n d w → RoadKit.slotOf Z O n d ≠ RoadKit.slotOf Z ST "value" "[B" → RoadKit.slotOf Z O n d ≠ RoadKit.slotOf Z ST "coder" "B" → RoadKit.Fld Z h' x O n d w
/-- **new String(chars) AT A CALL, THE ARRAYS AS LISTS**: the char[] at b holds cs, not empty, no char above 255 -/
theorem backArv {p : Program} {l : Launch} {e : Env} {R : Room} {s : State} {args : Array Value} {below : List Frame} {len W : Nat} {Z : State} {a0 : Array Value} {h : Heap} (hZ : Z.Warmed39 s.vm) (hw : ∀ d ∈ words, d.before a0 Z = true) {kI : Nat} (wi : (Jvm.Cond.instantiable ST kI).before a0 Z = true)
    {x b : Addr} {k : ClassId} {zn z : Int32} {cs : List Int32} {dv v0 c0 : Value} (E : RoadKit.Exa Z h x ST) (V : RoadKit.Fld Z h x ST "value" "[B" v0) (C : RoadKit.Fld Z h x ST "coder" "B" c0) (K : RoadKit.Arv Z h b k .char zn (cs.map Value.int) dv) (S : RoadKit.Sta Z h ST "COMPACT_STRINGS" "Z" (.int z)) (hz : ¬ z = 0)
    (hlen : zn.toNatClampNeg = cs.length) (h0 : 0 < cs.length) (hbig : cs.length ≤ 536870912) (hall : ∀ c ∈ cs, ¬ 255 < c) (hfr : 4 ≤ R.frames) (hlo : W + 65 ≤ R.locals) :
    Back l R p e below s args New1.yN len W (fun P a => a = #[.ref x, .ref b] ∧ P.U.heap = h ∧ P.cells + 1 ≤ R.cells ∧ P.slots + cs.length ≤ R.slots)
      (fun P _ v B => ∃ L, QA Z x zn cs h v B.U.heap L ∧ B.locs = P.locs ++ L ∧ B.cells = P.cells + 1 ∧ B.slots = P.slots + cs.length) := by
  obtain ⟨A, K1, K2, K3, K4, K5, K6⟩ := K
  have e : A.slots.size = cs.length := K3.trans hlen
  have hat : ∀ (i : Nat) (hi : i < cs.length), A.slots[i]? = some (.int cs[i]) := fun i hi => by rw [K5 i (by omega)]; simp [List.getD_eq_getElem?_getD, hi]
  have hcv : ∀ (i : Nat) (hi : i < cs.length), cv A i = cs[i] := fun i hi => by unfold cv; rw [hat i hi]
  have hty : Typed .char A := fun i v hv => by
    have hi : i < A.slots.size := (Array.getElem?_eq_some_iff.mp hv).1
    have q := K5 i hi
    rw [hv] at q
    rw [Option.some.inj q]
    exact K6 i hi
  refine Back.mono (back hZ hw wi E V C K1 hty S hz (by omega) (by omega) (fun i hi => by rw [hcv i (by omega)]; exact hall _ (List.getElem_mem _)) hfr hlo) (fun P a hp => ⟨hp.1, hp.2.1, hp.2.2.1, by rw [e]; exact hp.2.2.2⟩) (fun P a v B hp hq => ?_)
  obtain ⟨L, ⟨q1, q2, q3, q4, q5, q6, q7, ⟨V', v1, v2, v3, v4, v5⟩, q9⟩, hl, hc, hs⟩ := hq
  refine ⟨L, ⟨q1, q2, q3, q4, q5, q6, q7, ⟨V'.cls, v3, V', v1, rfl, by rw [v4, e, hlen], K4, fun i hi => ?_, fun i hi => ?_⟩, q9⟩, hl, hc, by rw [hs, e]⟩
  · have hi' : i < cs.length := by omega
    rw [v5 i (by omega), hcv i hi']; simp [List.getD_eq_getElem?_getD, hi']
  · have hi' : i < cs.length := by omega
    simp only [List.getD_eq_getElem?_getD, List.getElem?_map, List.getElem?_eq_getElem hi', Option.map_some, Option.getD_some]
    exact fits_lo8 _
end StrChars.Road
namespace StrChars.Road
open Jvm Sem ClassFile Op Lib Jvm.Stand Jvm.Free Jvm.Free.XT
/-- WHAT COMES BACK, in the writer's own shape -/
def QV (Z : State) (x : Addr) (N : Int32) (bs : List Int32) (h : Heap) (n0 : Nat) (v : Option Value) (h' : Heap) (L : List Loc) : Prop := v = none ∧ RoadKit.Fr n0 L ∧ RoadKit.Keep h h' [x] ∧ RoadKit.Exa Z h' x ST ∧ RoadKit.Fld Z h' x ST "coder" "B" (.int 0) ∧
  ∃ (t : Addr) (kb : ClassId), n0 ≤ t ∧ h.size ≤ t ∧ ¬ t = x ∧ RoadKit.Fld Z h' x ST "value" "[B" (.ref t) ∧ RoadKit.Arv Z h' t kb .byte N (bs.map Value.int) (.int 0)
/-- **new String(chars) AT A CALL, FOR THE WRITER**: a char[] of n known ints, each 0 to 255 -/
theorem backV {p : Program} {l : Launch} {e : Env} {R : Room} {s : State} {args : Array Value} {below : List Frame} {len W : Nat} {Z : State} {a0 : Array Value} {h : Heap} (hZ : Z.Warmed39 s.vm) (hw : ∀ d ∈ words, d.before a0 Z = true) {kI : Nat} (wi : (Jvm.Cond.instantiable ST kI).before a0 Z = true)
    {x b : Addr} {kC : ClassId} {cs bs : List Int32} {d v0 c0 : Value} {z N : Int32} {n n0 : Nat} (hx0 : n0 ≤ x) (hh0 : n0 ≤ h.size) (E : RoadKit.Exa Z h x ST) (V : RoadKit.Fld Z h x ST "value" "[B" v0) (C : RoadKit.Fld Z h x ST "coder" "B" c0) (K : RoadKit.Arv Z h b kC .char N (cs.map Value.int) d) (S : RoadKit.Sta Z h ST "COMPACT_STRINGS" "Z" (.int z)) (hz : ¬ z = 0)
    (hn : cs.length = n) (hN : N = Int32.ofNat n) (l0 : 0 < n) (l2 : n ≤ 4000) (hp : ∀ c ∈ cs, ¬ c < 0 ∧ ¬ (255 : Int32) < c) (hb : bs = cs.map (fun c => c.toInt8.toInt32)) (hfr : 4 ≤ R.frames) (hlo : W + 65 ≤ R.locals) :
    Back l R p e below s args (⟨"java/lang/String", "<init>", "([C)V"⟩ : MethodName) len W (fun P a => a = #[.ref x, .ref b] ∧ P.U.heap = h ∧ P.cells + 1 ≤ R.cells ∧ P.slots + n ≤ R.slots)
      (fun P _ v B => ∃ L, QV Z x N bs h n0 v B.U.heap L ∧ B.locs = P.locs ++ L ∧ B.cells = P.cells + 1 ∧ B.slots = P.slots + n) := by
  subst hn hN hb
  refine Back.mono (backArv hZ hw wi E V C K S hz (n32 (by omega)) l0 (by omega) (fun c hc => (hp c hc).2) hfr hlo) (fun P a hp => hp) (fun P a v B hp hq => ?_)
  obtain ⟨L, ⟨q1, q2, q3, q4, q5, q6, q7, ⟨kb, v1, v2⟩, q9⟩, hl, hc, hs⟩ := hq
  exact ⟨L, ⟨q1, fun y hy => by rw [q2 y hy]; exact hx0, q3, q5, q7, h.size, kb, hh0, Nat.le_refl _, Nat.ne_of_gt E.lt, q6, by rw [List.map_map]; exact v2⟩, hl, hc, hs⟩
end StrChars.Road
namespace StrChars
open Jvm Sem ClassFile Op Lib Jvm.Stand Jvm.Free.XT Jvm.Free.ALB Jvm.Free.JM Jvm.Free
open Jvm.Lib.Cold (StaticIs)
def hi8 (x : Int32) : Int32 := lo8 (x >>> ((8 : Int32) &&& 31))
/-- what StringUTF16.getChar makes of two bytes -/
def pairCh (u v : Int32) : Int32 := (((u &&& 255) <<< ((0 : Int32) &&& 31)) ||| ((v &&& 255) <<< ((8 : Int32) &&& 31))).toUInt32.toUInt16.toUInt32.toInt32
theorem lo8_and (x : Int32) : (lo8 x &&& 255).toBitVec.toNat = x.toBitVec.toNat % 256 := by
  have h : (lo8 x).toBitVec = (x.toBitVec.signExtend 8).signExtend 32 := by rw [lo8, Int8.toBitVec_toInt32, Int32.toBitVec_toInt8]
  rw [Int32.toBitVec_and, BitVec.toNat_and, h]
  have e : ((x.toBitVec.signExtend 8).signExtend 32).toNat % 256 = x.toBitVec.toNat % 256 := by
    rw [BitVec.toNat_signExtend]
    have hlt := x.toBitVec.isLt
    simp only [BitVec.toNat_setWidth, BitVec.toNat_signExtend]
    split <;> split <;> omega
  rw [← e]
  exact Nat.and_two_pow_sub_one_eq_mod _ 8
theorem pair_says {c : Int32} (h0 : ¬ c < 0) (h1 : ¬ 65535 < c) : pairCh (lo8 c) (hi8 c) = c := by
  rw [Int32.lt_iff_toInt_lt] at h0 h1
  have e0 : (0 : Int32).toInt = 0 := rfl
  have e1 : (65535 : Int32).toInt = 65535 := rfl
  have hc : c.toInt = c.toBitVec.toNat := by
    have := c.toBitVec.isLt
    have e : c.toInt = c.toBitVec.toInt := rfl
    rw [e] at h0 h1
    rw [e]
    rw [BitVec.toInt_eq_toNat_cond] at h0 h1 ⊢
    split at h0 <;> split <;> omega
  have hn : c.toBitVec.toNat < 65536 := by omega
  have a1 := lo8_and c
  have a2 : (hi8 c &&& 255).toBitVec.toNat = c.toBitVec.toNat / 256 := by
    rw [hi8, lo8_and]
    have e : ((8 : Int32) &&& 31) = 8 := by decide
    rw [e, Int32.toBitVec_shiftRight]
    have e2 : ((8 : Int32).toBitVec.smod 32) = 8#32 := by decide
    rw [e2, BitVec.sshiftRight_eq', BitVec.toNat_sshiftRight_of_msb_false (by rw [BitVec.msb_eq_false_iff_two_mul_lt]; omega)]
    show c.toBitVec.toNat >>> 8 % 256 = _
    rw [Nat.shiftRight_eq_div_pow]
    omega
  unfold pairCh
  apply Int32.toBitVec_inj.mp
  apply BitVec.eq_of_toNat_eq
  have f0 : ((0 : Int32) &&& 31) = 0 := by decide
  have f8 : ((8 : Int32) &&& 31) = 8 := by decide
  rw [f0, f8]
  have g : (((lo8 c &&& 255) <<< (0 : Int32)) ||| ((hi8 c &&& 255) <<< (8 : Int32))).toBitVec.toNat = c.toBitVec.toNat := by
    rw [Int32.toBitVec_or, Int32.toBitVec_shiftLeft, Int32.toBitVec_shiftLeft]
    have s0 : ((0 : Int32).toBitVec.smod 32) = 0#32 := by decide
    have s8 : ((8 : Int32).toBitVec.smod 32) = 8#32 := by decide
    rw [s0, s8, BitVec.toNat_or]
    simp only [BitVec.shiftLeft_eq', BitVec.toNat_shiftLeft, a1, a2]
    show (c.toBitVec.toNat % 256) <<< 0 % 2 ^ 32 ||| (c.toBitVec.toNat / 256) <<< 8 % 2 ^ 32 = _
    rw [Nat.shiftLeft_zero, Nat.mod_eq_of_lt (show c.toBitVec.toNat % 256 < 2 ^ 32 by omega), Nat.mod_eq_of_lt (show (c.toBitVec.toNat / 256) <<< 8 < 2 ^ 32 by rw [Nat.shiftLeft_eq]; omega), Nat.or_comm, ← Nat.shiftLeft_add_eq_or_of_lt (by omega), Nat.shiftLeft_eq]
    omega
  show BitVec.toNat (((((lo8 c &&& 255) <<< (0 : Int32)) ||| ((hi8 c &&& 255) <<< (8 : Int32))).toBitVec.setWidth 16).setWidth 32) = _
  rw [BitVec.toNat_setWidth, BitVec.toNat_setWidth, g]
  omega
end StrChars
namespace StrChars
open Jvm Sem ClassFile Op Lib Jvm.Stand Jvm.Free.XT Jvm.Free.ALB Jvm.Free.JM Jvm.Free
open Jvm.Lib.Cold (StaticIs)
/-- the array's cell V codes the n chars f 0 .. f (n - 1) by the coder cd, as the JDK does: coder 1 just where some char is above 255 -/
def Cod (cd : Int32) (n : Nat) (f : Nat → Int32) (V : Cell) : Prop := (cd = 0 ∧ V.slots.size = n ∧ ∀ j, j < n → V.slots[j]? = some (.int (lo8 (f j))) ∧ ¬ 255 < f j) ∨ (cd = 1 ∧ V.slots.size = 2 * n ∧ (∀ j, j < n → V.slots[2 * j]? = some (.int (lo8 (f j))) ∧ V.slots[2 * j + 1]? = some (.int (hi8 (f j)))) ∧ ∃ j, j < n ∧ 255 < f j)
/-- **x is a String of the n chars f 0 .. f (n - 1)**, Latin-1 or UTF-16; its array at t has the cell V -/
def Txt (x t : Addr) (V : Cell) (cd : Int32) (n : Nat) (f : Nat → Int32) (U : State) : Prop := Exact "java/lang/String" x U ∧ Has x "java/lang/String" "value" "[B" (.ref t) U ∧ Has x "java/lang/String" "coder" "B" (.int cd) U ∧ XT.Arr .byte t V U ∧ Cod cd n f V ∧ ∀ j, j < n → ¬ f j < 0 ∧ ¬ 65535 < f j
theorem Txt.mv {x t : Addr} {V : Cell} {cd : Int32} {n : Nat} {f : Nat → Int32} {U U' : State} (h : Txt x t V cd n f U) (hal : U.vm.Alike U'.vm) (hh : U'.heap = U.heap) : Txt x t V cd n f U' := ⟨h.1.mv hal hh, h.2.1.mv hal hh, h.2.2.1.mv hal hh, h.2.2.2.1.mv hal hh, h.2.2.2.2⟩
end StrChars
namespace StrChars.Road
open Jvm Sem ClassFile Op Lib Jvm.Stand Jvm.Free Jvm.Free.XT
open Jvm.Lib.Cold (StaticIs)
theorem consq {a : Array Value} {s : State} {c : Jvm.Cond} {L : List Jvm.Cond} (h0 : c.before a s = true) (h : ∀ w ∈ L, w.before a s = true) : ∀ w ∈ c :: L, w.before a s = true := fun w hw => (List.mem_cons.mp hw).elim (fun e => e ▸ h0) (h w)
/-- the bytes of the chars cs, low before high -/
def wideBytes : List Int32 → List Value
  | [] => []
  | c :: cs => .int (lo8 c) :: .int (hi8 c) :: wideBytes cs
theorem wide_lo (d : Value) : ∀ (cs : List Int32) (j : Nat), j < cs.length → (wideBytes cs).getD (2 * j) d = .int (lo8 (cs.getD j 0))
  | [], j, h => absurd h (Nat.not_lt_zero j)
  | c :: cs, 0, _ => rfl
  | c :: cs, j + 1, h => by
    have q := wide_lo d cs j (by simpa using h)
    rw [show 2 * (j + 1) = 2 * j + 1 + 1 from by omega]
    simpa [wideBytes] using q
theorem wide_hi (d : Value) : ∀ (cs : List Int32) (j : Nat), j < cs.length → (wideBytes cs).getD (2 * j + 1) d = .int (hi8 (cs.getD j 0))
  | [], j, h => absurd h (Nat.not_lt_zero j)
  | c :: cs, 0, _ => rfl
  | c :: cs, j + 1, h => by
    have q := wide_hi d cs j (by simpa using h)
    rw [show 2 * (j + 1) + 1 = 2 * j + 1 + 1 + 1 from by omega]
    simpa [wideBytes] using q
theorem low_at (d : Value) (cs : List Int32) (j : Nat) (h : j < cs.length) : (cs.map fun c => Value.int (lo8 c)).getD j d = .int (lo8 (cs.getD j 0)) := by
  simp [List.getD_eq_getElem?_getD, h]
/-- an array of N2 bytes vs codes the chars cs by the coder cd -/
def CodA (cs : List Int32) (cd N2 : Int32) (vs : List Value) : Prop := (cd = 0 ∧ N2 = Int32.ofNat cs.length ∧ vs = (cs.map fun c => Value.int (lo8 c)) ∧ ∀ c ∈ cs, ¬ 255 < c) ∨ (cd = 1 ∧ N2 = Int32.ofNat (2 * cs.length) ∧ vs = wideBytes cs ∧ ∃ c ∈ cs, 255 < c)
theorem CodA.cod {cs : List Int32} {cd N2 : Int32} {vs : List Value} {V : Cell} (h : CodA cs cd N2 vs) (hn : 2 * cs.length < 2 ^ 31) (hs : V.slots.size = N2.toNatClampNeg) (hv : RoadKit.Has V vs (.int 0)) : Cod cd cs.length (fun j => cs.getD j 0) V := by
  rcases h with ⟨rfl, rfl, rfl, h⟩ | ⟨rfl, rfl, rfl, c, hc, hw⟩
  · rw [n32 (by omega)] at hs
    exact Or.inl ⟨rfl, hs, fun j hj => ⟨by rw [hv j (by omega), low_at _ _ _ hj], by
      have e : cs.getD j 0 = cs[j] := by simp [List.getD_eq_getElem?_getD, hj]
      show ¬ 255 < cs.getD j 0
      rw [e]; exact h _ (List.getElem_mem _)⟩⟩
  · rw [n32 (by omega)] at hs
    obtain ⟨j, hj, rfl⟩ := List.getElem_of_mem hc
    exact Or.inr ⟨rfl, hs, fun j hj => ⟨by rw [hv _ (by omega), wide_lo _ _ _ hj], by rw [hv _ (by omega), wide_hi _ _ _ hj]⟩, j, hj, by
      have e : cs.getD j 0 = cs[j] := by simp [List.getD_eq_getElem?_getD, hj]
      show 255 < cs.getD j 0
      rw [e]; exact hw⟩
/-- an object of exactly java/lang/String, its two fields found: as the laws ask it -/
theorem strObj {Z U : State} {a0 : Array Value} {kI : Nat} (wi : (Jvm.Cond.instantiable ST kI).before a0 Z = true) (al : Z.vm.Alike U.vm) {x : Addr} {v0 c0 : Value} (E : RoadKit.Exa Z U.heap x ST) (V : RoadKit.Fld Z U.heap x ST "value" "[B" v0) (C : RoadKit.Fld Z U.heap x ST "coder" "B" c0) :
    ∃ (D : Cell) (fV fC : Field), Blank ST x D U ∧ Found ST "value" "[B" fV U ∧ Found ST "coder" "B" fC U ∧ D.slots[fV.slot]? = some v0 ∧ D.slots[fC.slot]? = some c0 ∧ RoadKit.slotOf Z ST "value" "[B" = fV.slot ∧ RoadKit.slotOf Z ST "coder" "B" = fC.slot := by
  obtain ⟨D, cfV, kV, iV, fV, hD, gV, stV, knV, obV, asV, slV⟩ := V
  obtain ⟨D', cfC, kC, iC, fC, hD', gC, stC, -, -, asC, slC⟩ := C
  cases hD.symm.trans hD'
  obtain ⟨D2, kD, e1, e2, e3, e4, e5⟩ := E
  cases hD.symm.trans e1
  obtain ⟨c2, k2, i1, i2, i3, -⟩ := Cond.instantiable_spec wi
  cases e2.symm.trans i1
  cases e3.symm.trans i2
  obtain ⟨kU, u1, u2⟩ := al.2.2 _ _ e3
  exact ⟨D, fV, fC, ⟨hD, ⟨knV, fun q hq => by rw [hq] at obV; cases obV⟩, by rw [al.findClass]; exact e2, kU, u1, by rw [u2]; exact i3, by rw [u2]; exact e5 i3⟩, ⟨SBG.found_only al ⟨cfV, kV, iV, gV⟩, stV⟩, ⟨SBG.found_only al ⟨cfC, kC, iC, gC⟩, stC⟩, slV, slC, by simp [RoadKit.slotOf, gV], by simp [RoadKit.slotOf, gC]⟩
theorem sta_is {Z U : State} (al : Z.vm.Alike U.vm) {C n d : String} {v : Value} (S : RoadKit.Sta Z U.heap C n d v) : StaticIs U C n d v := by
  obtain ⟨cfS, iS, kS, fS, st, cS, t1, t2, t3, t4, t5, t6, t7⟩ := S
  exact StaticIs.there (s := { Z with heap := U.heap }) ⟨cfS, iS, kS, fS, st, cS, t1, t2, t3, t4, t5, (fun q => by rw [q] at t6; cases t6), t7⟩ al rfl
end StrChars.Road
namespace StrChars
open Jvm Sem ClassFile Op Lib Jvm.Stand Jvm.Free.XT Jvm.Free.ALB Jvm.Free.JM Jvm.Free
open Jvm.Lib.Cold (StaticIs)
/-- what place i of a byte[]'s cell holds -/
def yv (A : Cell) (i : Nat) : Int32 := match A.slots[i]? with | some (.int x) => x | _ => 0
theorem yv_get {a : Addr} {A : Cell} {U : State} (h : XT.Arr .byte a A U) (ht : Typed .byte A) {i : Nat} (hi : i < A.slots.size) : A.slots[i]? = some (.int (yv A i)) := by
  have e := Array.getElem?_eq_getElem hi
  have f := ht i _ e
  unfold yv; rw [e]
  generalize A.slots[i] = v at f
  cases v <;> simp [fits] at f ⊢
/-- the two arrays are equal, place for place -/
def EqC (A B : Cell) : Prop := A.slots.size = B.slots.size ∧ ∀ i, i < A.slots.size → yv A i = yv B i
/-- a boolean that says whether p -/
def Says01 (q : Prop) (r : Option Value) (s u : State) : Prop := ∃ v : Int32, r = some (.int v) ∧ u.heap = s.heap ∧ ((v = 1 ∧ q) ∨ (v = 0 ∧ ¬ q))
theorem Says01.mv {q : Prop} : ∀ r (U U' V V' : State), U'.heap = U.heap → V.vm.Alike V'.vm → V'.heap = V.heap → Says01 q r U V → Says01 q r U' V' :=
  fun r U U' V V' h1 _ h2 ⟨v, a, b, c⟩ => ⟨v, a, by rw [h1, h2]; exact b, c⟩
namespace LEq
def yN : MethodName := ⟨"java/lang/StringLatin1", "equals", "([B[B)Z"⟩
abbrev yB : ByteArray := jdk_43_method_13_code
theorem d0 : decode yB 0 = .ok (.aload_n 0, 1) := by decide +kernel
theorem d1 : decode yB 1 = .ok (.arraylength, 1) := by decide +kernel
theorem d2 : decode yB 2 = .ok (.aload_n 1, 1) := by decide +kernel
theorem d3 : decode yB 3 = .ok (.arraylength, 1) := by decide +kernel
theorem d4 : decode yB 4 = .ok (.if_icmp (.ne) 30, 3) := by decide +kernel
theorem d7 : decode yB 7 = .ok (.iconst 0, 1) := by decide +kernel
theorem d8 : decode yB 8 = .ok (.istore_n 2, 1) := by decide +kernel
theorem d9 : decode yB 9 = .ok (.iload_n 2, 1) := by decide +kernel
theorem d10 : decode yB 10 = .ok (.aload_n 0, 1) := by decide +kernel
theorem d11 : decode yB 11 = .ok (.arraylength, 1) := by decide +kernel
theorem d12 : decode yB 12 = .ok (.if_icmp (.ge) 20, 3) := by decide +kernel
theorem d15 : decode yB 15 = .ok (.aload_n 0, 1) := by decide +kernel
theorem d16 : decode yB 16 = .ok (.iload_n 2, 1) := by decide +kernel
theorem d17 : decode yB 17 = .ok (.baload, 1) := by decide +kernel
theorem d18 : decode yB 18 = .ok (.aload_n 1, 1) := by decide +kernel
theorem d19 : decode yB 19 = .ok (.iload_n 2, 1) := by decide +kernel
theorem d20 : decode yB 20 = .ok (.baload, 1) := by decide +kernel
theorem d21 : decode yB 21 = .ok (.if_icmp (.eq) 5, 3) := by decide +kernel
theorem d24 : decode yB 24 = .ok (.iconst 0, 1) := by decide +kernel
theorem d25 : decode yB 25 = .ok (.ireturn, 1) := by decide +kernel
theorem d26 : decode yB 26 = .ok (.iinc 2 1, 3) := by decide +kernel
theorem d29 : decode yB 29 = .ok (.goto (-20), 3) := by decide +kernel
theorem d32 : decode yB 32 = .ok (.iconst 1, 1) := by decide +kernel
theorem d33 : decode yB 33 = .ok (.ireturn, 1) := by decide +kernel
theorem d34 : decode yB 34 = .ok (.iconst 0, 1) := by decide +kernel
theorem d35 : decode yB 35 = .ok (.ireturn, 1) := by decide +kernel
def site : List Cond := []
def tab : Cond := tabOf yN yB 3 (some .boolean) site
def P (a : Addr) (A : Cell) (b : Addr) (B : Cell) (args : Array Value) (s : State) : Prop := args = #[.ref a, .ref b] ∧ XT.Arr .byte a A s ∧ Typed .byte A ∧ XT.Arr .byte b B s ∧ Typed .byte B
/-- whether two byte[] are equal, place for place -/
theorem law (l : Launch) (a : Addr) (A : Cell) (b : Addr) (B : Cell) : Law l yN 2 2 0 0 yB 3 (some .boolean) site (P a A b B) (Says01 (EqC A B)) [] 0 0 := by
  refine Law.of_walk (plainFor_of_name (by decide +kernel)) (by decide +kernel) (by decide +kernel) (by decide) (fun _ _ h => by rw [h.1]; rfl) (fun _ U U' hal hh h => ⟨h.1, h.2.1.mv hal hh, h.2.2.1, h.2.2.2.1.mv hal hh, h.2.2.2.2⟩) (fun r U U' V V' h1 hal h2 h => Says01.mv r U U' V V' h1 hal h2 h) ?_
  intro p e s m args below meth c s₁ X0 hexec hbytes hml hret hlk hnm hown hh0 W hP
  obtain ⟨rfl, hA, tA, hB, tB⟩ := hP
  have a31 := hA.2.2.2
  have b31 := hB.2.2.2
  have hA0 := hA.mv X0.warmed.alike hh0
  have hB0 := hB.mv X0.warmed.alike hh0
  have c1 : Steps p.tables e below (s₁.setTop (entryFrame m #[.ref a, .ref b] 3)) (s₁.setTop (mkF m 0 #[.val (.ref a), .val (.ref b), .unset] [])) := entry rfl
  have c2 : Steps p.tables e below (s₁.setTop (entryFrame m #[.ref a, .ref b] 3)) (s₁.setTop (mkF m 4 #[.val (.ref a), .val (.ref b), .unset] [.int (Int32.ofNat B.slots.size), .int (Int32.ofNat A.slots.size)])) := c1.trans (by
    refine XS.aloadN X0.here hexec rfl (hb hbytes d0) rfl rfl ?_
    refine X0.alen hexec hA0 rfl rfl (hb hbytes d1) ?_
    refine XS.aloadN X0.here hexec rfl (hb hbytes d2) rfl rfl ?_
    refine X0.alen hexec hB0 rfl rfl (hb hbytes d3) ?_
    exact Steps.refl _)
  by_cases hs : A.slots.size = B.slots.size
  · have c3 : Steps p.tables e below (s₁.setTop (entryFrame m #[.ref a, .ref b] 3)) (s₁.setTop (mkF m 9 #[.val (.ref a), .val (.ref b), .val (.int 0)] [])) := c2.trans (by
      refine XS.icmpNo X0.here hexec rfl (hb hbytes d4) rfl (ii_ne_f (by rw [hs])) ?_
      refine iconstV X0.here hexec rfl 0 (hb hbytes d7) (by decide) ?_
      refine XS.istoreN X0.here hexec rfl (hb hbytes d8) rfl rfl ?_
      exact Steps.refl _)
    have loop : ∀ (r i : Nat), i + r = A.slots.size → (∀ j, j < i → yv A j = yv B j) → Steps p.tables e below (s₁.setTop (entryFrame m #[.ref a, .ref b] 3)) (s₁.setTop (mkF m 9 #[.val (.ref a), .val (.ref b), .val (.int (Int32.ofNat i))] [])) → ∃ (pc : Nat) (Ls : Array Slot) (v : Int32), (pc = 25 ∨ pc = 33) ∧ ((v = 1 ∧ EqC A B) ∨ (v = 0 ∧ ¬ EqC A B)) ∧ Steps p.tables e below (s₁.setTop (entryFrame m #[.ref a, .ref b] 3)) (s₁.setTop (mkF m pc Ls [.int v])) := by
      intro r
      induction r with
      | zero =>
        intro i hi he cl
        exact ⟨33, _, 1, Or.inr rfl, Or.inl ⟨rfl, hs, fun j hj => he j (by omega)⟩, cl.trans (by
          refine XS.iloadN X0.here hexec rfl (hb hbytes d9) rfl ?_
          refine XS.aloadN X0.here hexec rfl (hb hbytes d10) rfl rfl ?_
          refine X0.alen hexec hA0 rfl rfl (hb hbytes d11) ?_
          refine XS.icmpYes X0.here hexec rfl (pc0 := 12) rfl (hb hbytes d12) rfl (ii_ge_t (nlt32 (by omega) (by omega))) (by decide) rfl ?_
          refine iconstV X0.here hexec rfl 1 (hb hbytes d32) (by decide) ?_
          exact Steps.refl _)⟩
      | succ r ih =>
        intro i hi he cl
        have c4 : Steps p.tables e below (s₁.setTop (entryFrame m #[.ref a, .ref b] 3)) (s₁.setTop (mkF m 21 #[.val (.ref a), .val (.ref b), .val (.int (Int32.ofNat i))] [.int (yv B i), .int (yv A i)])) := cl.trans (by
          refine XS.iloadN X0.here hexec rfl (hb hbytes d9) rfl ?_
          refine XS.aloadN X0.here hexec rfl (hb hbytes d10) rfl rfl ?_
          refine X0.alen hexec hA0 rfl rfl (hb hbytes d11) ?_
          refine XS.icmpNo X0.here hexec rfl (hb hbytes d12) rfl (ii_ge_f (lt32 (by omega) (by omega))) ?_
          refine XS.aloadN X0.here hexec rfl (hb hbytes d15) rfl rfl ?_
          refine XS.iloadN X0.here hexec rfl (hb hbytes d16) rfl ?_
          refine X0.aget hexec hA0 rfl (yv_get hA tA (i := i) (by omega)) rfl rfl (hb hbytes d17) ?_
          refine XS.aloadN X0.here hexec rfl (hb hbytes d18) rfl rfl ?_
          refine XS.iloadN X0.here hexec rfl (hb hbytes d19) rfl ?_
          refine X0.aget hexec hB0 rfl (yv_get hB tB (i := i) (by omega)) rfl rfl (hb hbytes d20) ?_
          exact Steps.refl _)
        by_cases hv : yv A i = yv B i
        · have c5 : Steps p.tables e below (s₁.setTop (entryFrame m #[.ref a, .ref b] 3)) (s₁.setTop (mkF m 9 #[.val (.ref a), .val (.ref b), .val (.int (Int32.ofNat i + 1))] [])) := c4.trans (by
            refine XS.icmpYes X0.here hexec rfl (pc0 := 21) rfl (hb hbytes d21) rfl (ii_eq_t hv) (by decide) rfl ?_
            refine iincV X0.here hexec rfl 1 (hb hbytes d26) (by decide) rfl rfl ?_
            refine XS.goto X0.here hexec rfl (pc0 := 29) rfl (hb hbytes d29) (by decide) rfl ?_
            exact Steps.refl _)
          rw [succ32] at c5
          exact ih (i + 1) (by omega) (fun j hj => by
            by_cases e : j = i
            · rw [e]; exact hv
            · exact he j (by omega)) c5
        · exact ⟨25, _, 0, Or.inl rfl, Or.inr ⟨rfl, fun q => hv (q.2 i (by omega))⟩, c4.trans (by
            refine XS.icmpNo X0.here hexec rfl (hb hbytes d21) rfl (ii_eq_f hv) ?_
            refine iconstV X0.here hexec rfl 0 (hb hbytes d24) (by decide) ?_
            exact Steps.refl _)⟩
    obtain ⟨pc, Ls, v, hpc, hv, cz⟩ := loop A.slots.size 0 (by omega) (fun j hj => absurd hj (Nat.not_lt_zero j)) c3
    have nv : narrow .boolean (.int v) = .int v := by rcases hv with ⟨rfl, -⟩ | ⟨rfl, -⟩ <;> rfl
    rcases hpc with rfl | rfl
    · exact ⟨s₁, some (.int v), _, _, _, X0, rfl, rfl, rfl, (fun h => by cases h), ⟨v, rfl, hh0, hv⟩, fun fs hl => cz.trans (X0.ireturnOut hexec hret nv (Or.inr (Or.inl rfl)) (hb hbytes d25) hl)⟩
    · exact ⟨s₁, some (.int v), _, _, _, X0, rfl, rfl, rfl, (fun h => by cases h), ⟨v, rfl, hh0, hv⟩, fun fs hl => cz.trans (X0.ireturnOut hexec hret nv (Or.inr (Or.inl rfl)) (hb hbytes d33) hl)⟩
  · have c3 : Steps p.tables e below (s₁.setTop (entryFrame m #[.ref a, .ref b] 3)) (s₁.setTop (mkF m 35 #[.val (.ref a), .val (.ref b), .unset] [.int 0])) := c2.trans (by
      refine XS.icmpYes X0.here hexec rfl (pc0 := 4) rfl (hb hbytes d4) rfl (ii_ne_t (ne32 a31 b31 hs)) (by decide) rfl ?_
      refine iconstV X0.here hexec rfl 0 (hb hbytes d34) (by decide) ?_
      exact Steps.refl _)
    exact ⟨s₁, some (.int 0), _, _, _, X0, rfl, rfl, rfl, (fun h => by cases h), ⟨0, rfl, hh0, Or.inr ⟨rfl, fun q => hs q.1⟩⟩, fun fs hl => c3.trans (X0.ireturnOut hexec hret rfl (Or.inr (Or.inl rfl)) (hb hbytes d35) hl)⟩
end LEq
theorem Cod.ty {cd : Int32} {n : Nat} {f : Nat → Int32} {V : Cell} (h : Cod cd n f V) : Typed .byte V := fun i v hv => by
  have hi : i < V.slots.size := (Array.getElem?_eq_some_iff.mp hv).1
  rcases h with ⟨-, k1, k2⟩ | ⟨-, k1, k2, -⟩
  · rw [(k2 i (by omega)).1] at hv; cases hv; exact fits_lo8 _
  · rcases Nat.mod_two_eq_zero_or_one i with e | e
    · obtain ⟨j, rfl⟩ : ∃ j, i = 2 * j := ⟨i / 2, by omega⟩
      rw [(k2 j (by omega)).1] at hv; cases hv; exact fits_lo8 _
    · obtain ⟨j, rfl⟩ : ∃ j, i = 2 * j + 1 := ⟨i / 2, by omega⟩
      rw [(k2 j (by omega)).2] at hv; cases hv; exact fits_lo8 _
/-- the same text -/
def SameT (n : Nat) (f : Nat → Int32) (k : Nat) (g : Nat → Int32) : Prop := n = k ∧ ∀ j, j < n → f j = g j
theorem lo8_inj {x y : Int32} (h0 : ¬ x < 0) (h1 : ¬ 255 < x) (k0 : ¬ y < 0) (k1 : ¬ 255 < y) (h : lo8 x = lo8 y) : x = y := by
  rw [← lo8_mask h0 h1, ← lo8_mask k0 k1, h]
/-- arrays coded by one coder are equal just where the texts are -/
theorem Cod.eqv {cd : Int32} {n k : Nat} {f g : Nat → Int32} {V V' : Cell} (h : Cod cd n f V) (h' : Cod cd k g V') (hf : ∀ j, j < n → ¬ f j < 0 ∧ ¬ 65535 < f j) (hg : ∀ j, j < k → ¬ g j < 0 ∧ ¬ 65535 < g j) : EqC V V' ↔ SameT n f k g := by
  have yvv : ∀ {W : Cell} {i : Nat} {x : Int32}, W.slots[i]? = some (.int x) → yv W i = x := fun q => by unfold yv; rw [q]
  rcases h with ⟨rfl, k1, k2⟩ | ⟨rfl, k1, k2, -⟩
  · rcases h' with ⟨-, m1, m2⟩ | ⟨e, -⟩
    · constructor
      · rintro ⟨e1, e2⟩
        refine ⟨by omega, fun j hj => ?_⟩
        have q := e2 j (by omega)
        rw [yvv (k2 j hj).1, yvv (m2 j (by omega)).1] at q
        exact lo8_inj (hf j hj).1 (k2 j hj).2 (hg j (by omega)).1 (m2 j (by omega)).2 q
      · rintro ⟨rfl, e2⟩
        refine ⟨by omega, fun j hj => ?_⟩
        rw [yvv (k2 j (by omega)).1, yvv (m2 j (by omega)).1, e2 j (by omega)]
    · exact absurd e (by decide)
  · rcases h' with ⟨e, -⟩ | ⟨-, m1, m2, -⟩
    · exact absurd e (by decide)
    · constructor
      · rintro ⟨e1, e2⟩
        refine ⟨by omega, fun j hj => ?_⟩
        have q1 := e2 (2 * j) (by omega)
        have q2 := e2 (2 * j + 1) (by omega)
        rw [yvv (k2 j hj).1, yvv (m2 j (by omega)).1] at q1
        rw [yvv (k2 j hj).2, yvv (m2 j (by omega)).2] at q2
        rw [← pair_says (hf j hj).1 (hf j hj).2, ← pair_says (hg j (by omega)).1 (hg j (by omega)).2, q1, q2]
      · rintro ⟨rfl, e2⟩
        refine ⟨by omega, fun i hi => ?_⟩
        rcases Nat.mod_two_eq_zero_or_one i with e | e
        · obtain ⟨j, rfl⟩ : ∃ j, i = 2 * j := ⟨i / 2, by omega⟩
          rw [yvv (k2 j (by omega)).1, yvv (m2 j (by omega)).1, e2 j (by omega)]
        · obtain ⟨j, rfl⟩ : ∃ j, i = 2 * j + 1 := ⟨i / 2, by omega⟩
          rw [yvv (k2 j (by omega)).2, yvv (m2 j (by omega)).2, e2 j (by omega)]
/-- two codings differ: so do the texts -/
theorem Cod.dif {cd cd' : Int32} {n k : Nat} {f g : Nat → Int32} {V V' : Cell} (h : Cod cd n f V) (h' : Cod cd' k g V') (hne : ¬ cd = cd') : ¬ SameT n f k g := by
  rintro ⟨rfl, e⟩
  rcases h with ⟨rfl, -, k2⟩ | ⟨rfl, -, -, j, hj, hw⟩
  · rcases h' with ⟨rfl, -⟩ | ⟨-, -, -, j, hj, hw⟩
    · exact hne rfl
    · exact (k2 j hj).2 (by rw [e j hj]; exact hw)
  · rcases h' with ⟨-, -, m2⟩ | ⟨rfl, -⟩
    · exact (m2 j hj).2 (by rw [← e j hj]; exact hw)
    · exact hne rfl
/-- an object of exactly C is an instance of C -/
theorem cinst {p : Program} {l : Launch} {e : Env} {R : Room} {s : State} {m : MethodId} {args : Array Value} {below : List Frame} {meth : Method} {c : Code} {T : State} {locs : List Loc} {cells slots : Nat} (X : Stand p l e R s m args below meth c T locs cells slots) (hexec : p.tables.exec = Jvm.exec) {own C : String} {index : Nat} (hown : s.vm.findClass own = some m.cls) (hlink : (Cond.classLink own index C).before args s = true) {a : Addr} (hE : Exact C a T)
    {g : JFrame} (hg : g.method = m) {rest : List Value} (hstack : g.stack = .ref a :: rest) (hdg : decode c.code g.pc = .ok (.instanceof index, 3)) :
    ∃ T', Stand p l e R s m args below meth c T' locs cells slots ∧ T'.heap = T.heap ∧ ∀ target, Steps p.tables e below (T'.setTop { g with pc := g.pc + 3, stack := .int 1 :: rest }) target → Steps p.tables e below (T.setTop g) target := by
  obtain ⟨cB, h1, D, h2, h3, h4⟩ := hE
  have h1' : s.vm.findClass C = some cB := by rw [← X.warmed.alike.findClass]; exact h1
  obtain ⟨vm', X', st⟩ := X.instanceofYes hexec hown hlink h2 h4 h1' (by rw [h3]; exact Jvm.Free.SB.assignable_self _ _) hg hstack hdg
  exact ⟨_, X', rfl, st⟩
theorem cself {p : Program} {l : Launch} {e : Env} {R : Room} {s : State} {m : MethodId} {args : Array Value} {below : List Frame} {meth : Method} {c : Code} {T : State} {locs : List Loc} {cells slots : Nat} (X : Stand p l e R s m args below meth c T locs cells slots) (hexec : p.tables.exec = Jvm.exec) {own C : String} {index : Nat} (hown : s.vm.findClass own = some m.cls) (hlink : (Cond.classLink own index C).before args s = true) {a : Addr} (hE : Exact C a T)
    {g : JFrame} (hg : g.method = m) {rest : List Value} (hstack : g.stack = .ref a :: rest) (hdg : decode c.code g.pc = .ok (.checkcast index, 3)) :
    ∃ T', Stand p l e R s m args below meth c T' locs cells slots ∧ T'.heap = T.heap ∧ ∀ target, Steps p.tables e below (T'.setTop { g with pc := g.pc + 3, stack := .ref a :: rest }) target → Steps p.tables e below (T.setTop g) target := by
  obtain ⟨cB, h1, D, h2, h3, h4⟩ := hE
  have h1' : s.vm.findClass C = some cB := by rw [← X.warmed.alike.findClass]; exact h1
  obtain ⟨vm', X', st⟩ := X.checkcastYes hexec hown hlink h2 h4 h1' (by rw [h3]; exact Jvm.Free.SB.assignable_self _ _) hg hstack hdg
  exact ⟨_, X', rfl, fun t h => st t (by rw [← hstack] at h; exact h)⟩
namespace SEq
def yN : MethodName := ⟨"java/lang/String", "equals", "(Ljava/lang/Object;)Z"⟩
abbrev yB : ByteArray := jdk_42_method_66_code
theorem d0 : decode yB 0 = .ok (.aload_n 0, 1) := by decide +kernel
theorem d1 : decode yB 1 = .ok (.aload_n 1, 1) := by decide +kernel
theorem d2 : decode yB 2 = .ok (.if_acmp (.ne) 5, 3) := by decide +kernel
theorem d5 : decode yB 5 = .ok (.iconst 1, 1) := by decide +kernel
theorem d6 : decode yB 6 = .ok (.ireturn, 1) := by decide +kernel
theorem d7 : decode yB 7 = .ok (.aload_n 1, 1) := by decide +kernel
theorem d8 : decode yB 8 = .ok (.instanceof 10, 3) := by decide +kernel
theorem d11 : decode yB 11 = .ok (.ifCond (.eq) 43, 3) := by decide +kernel
theorem d14 : decode yB 14 = .ok (.aload_n 1, 1) := by decide +kernel
theorem d15 : decode yB 15 = .ok (.checkcast 10, 3) := by decide +kernel
theorem d18 : decode yB 18 = .ok (.astore_n 2, 1) := by decide +kernel
theorem d19 : decode yB 19 = .ok (.getstatic 38, 3) := by decide +kernel
theorem d22 : decode yB 22 = .ok (.ifCond (.eq) 14, 3) := by decide +kernel
theorem d25 : decode yB 25 = .ok (.aload_n 0, 1) := by decide +kernel
theorem d26 : decode yB 26 = .ok (.getfield 15, 3) := by decide +kernel
theorem d29 : decode yB 29 = .ok (.aload_n 2, 1) := by decide +kernel
theorem d30 : decode yB 30 = .ok (.getfield 15, 3) := by decide +kernel
theorem d33 : decode yB 33 = .ok (.if_icmp (.ne) 21, 3) := by decide +kernel
theorem d36 : decode yB 36 = .ok (.aload_n 0, 1) := by decide +kernel
theorem d37 : decode yB 37 = .ok (.getfield 9, 3) := by decide +kernel
theorem d40 : decode yB 40 = .ok (.aload_n 2, 1) := by decide +kernel
theorem d41 : decode yB 41 = .ok (.getfield 9, 3) := by decide +kernel
theorem d44 : decode yB 44 = .ok (.invokestatic 541, 3) := by decide +kernel
theorem d47 : decode yB 47 = .ok (.ifCond (.eq) 7, 3) := by decide +kernel
theorem d50 : decode yB 50 = .ok (.iconst 1, 1) := by decide +kernel
theorem d51 : decode yB 51 = .ok (.goto 4, 3) := by decide +kernel
theorem d54 : decode yB 54 = .ok (.iconst 0, 1) := by decide +kernel
theorem d55 : decode yB 55 = .ok (.ireturn, 1) := by decide +kernel
def site : List Cond := [.classLink "java/lang/String" 10 "java/lang/String", .fieldLink "java/lang/String" 38 "java/lang/String" "COMPACT_STRINGS" "Z", .fieldLink "java/lang/String" 15 "java/lang/String" "coder" "B", .fieldLink "java/lang/String" 9 "java/lang/String" "value" "[B", LEq.tab] ++ staticW "java/lang/String" 541 LEq.yN
def tab : Cond := tabOf yN yB 3 (some .boolean) site
def P (x t : Addr) (V : Cell) (cd : Int32) (n : Nat) (f : Nat → Int32) (y t' : Addr) (V' : Cell) (cd' : Int32) (k : Nat) (g : Nat → Int32) (z : Int32) (args : Array Value) (s : State) : Prop := args = #[.ref x, .ref y] ∧ Txt x t V cd n f s ∧ Txt y t' V' cd' k g s ∧ StaticIs s "java/lang/String" "COMPACT_STRINGS" "Z" (.int z) ∧ ¬ z = 0
/-- equals(Object) of two Strings: whether the texts are the same -/
theorem law (l : Launch) (x t : Addr) (V : Cell) (cd : Int32) (n : Nat) (f : Nat → Int32) (y t' : Addr) (V' : Cell) (cd' : Int32) (k : Nat) (g : Nat → Int32) (z : Int32) : Law l yN 2 1 1 14 yB 3 (some .boolean) site (P x t V cd n f y t' V' cd' k g z) (Says01 (SameT n f k g)) [] 0 0 := by
  refine Law.of_walk (plainFor_of_name (by decide +kernel)) (by decide +kernel) (by decide +kernel) (by decide) (fun _ _ h => by rw [h.1]; rfl) (fun _ U U' hal hh h => ⟨h.1, h.2.1.mv hal hh, h.2.2.1.mv hal hh, h.2.2.2.1.there hal hh, h.2.2.2.2⟩) (fun r U U' V V' h1 hal h2 h => Says01.mv r U U' V V' h1 hal h2 h) ?_
  intro p e s m args below meth c s₁ X0 hexec hbytes hml hret hlk hnm hown hh0 W hP
  obtain ⟨rfl, hx, hy, s1, hz⟩ := hP
  have c1 : Steps p.tables e below (s₁.setTop (entryFrame m #[.ref x, .ref y] 3)) (s₁.setTop (mkF m 2 #[.val (.ref x), .val (.ref y), .unset] [.ref y, .ref x])) := Steps.trans (entry rfl) (by
    show Steps p.tables e below (s₁.setTop (mkF m 0 #[.val (.ref x), .val (.ref y), .unset] [])) _
    refine XS.aloadN X0.here hexec rfl (hb hbytes d0) rfl rfl ?_
    refine XS.aloadN X0.here hexec rfl (hb hbytes d1) rfl rfl ?_
    exact Steps.refl _)
  by_cases hxy : x = y
  · have c2 : Steps p.tables e below (s₁.setTop (entryFrame m #[.ref x, .ref y] 3)) (s₁.setTop (mkF m 6 #[.val (.ref x), .val (.ref y), .unset] [.int 1])) := c1.trans (by
      refine acmpNo X0.here hexec rfl (hb hbytes d2) rfl rfl rfl (by simp [acmp, hxy]) ?_
      refine iconstV X0.here hexec rfl 1 (hb hbytes d5) (by decide) ?_
      exact Steps.refl _)
    subst hxy
    have ec : cd = cd' := by
      obtain ⟨D, fd, a1, a2, a3⟩ := hx.2.2.1
      obtain ⟨D', fd', b1, b2, b3⟩ := hy.2.2.1
      cases a1.symm.trans b1
      obtain ⟨q1, q2, q3, q4⟩ := a2.1
      obtain ⟨r1, r2, r3, r4⟩ := b2.1
      cases q4.symm.trans r4
      cases a3.symm.trans b3; rfl
    have et : t = t' := by
      obtain ⟨D, fd, a1, a2, a3⟩ := hx.2.1
      obtain ⟨D', fd', b1, b2, b3⟩ := hy.2.1
      cases a1.symm.trans b1
      obtain ⟨q1, q2, q3, q4⟩ := a2.1
      obtain ⟨r1, r2, r3, r4⟩ := b2.1
      cases q4.symm.trans r4
      cases a3.symm.trans b3; rfl
    subst ec et
    have ev : V = V' := by cases hx.2.2.2.1.1.symm.trans hy.2.2.2.1.1; rfl
    subst ev
    have hs : SameT n f k g := (Cod.eqv hx.2.2.2.2.1 hy.2.2.2.2.1 hx.2.2.2.2.2 hy.2.2.2.2.2).mp ⟨rfl, fun _ _ => rfl⟩
    exact ⟨s₁, some (.int 1), _, _, _, X0, rfl, rfl, rfl, (fun h => by cases h), ⟨1, rfl, hh0, Or.inl ⟨rfl, hs⟩⟩, fun fs hl => c2.trans (X0.ireturnOut hexec hret rfl (Or.inr (Or.inl rfl)) (hb hbytes d6) hl)⟩
  · have c2 : Steps p.tables e below (s₁.setTop (entryFrame m #[.ref x, .ref y] 3)) (s₁.setTop (mkF m 8 #[.val (.ref x), .val (.ref y), .unset] [.ref y])) := c1.trans (by
      refine acmpYes X0.here hexec rfl (pc0 := 2) rfl (hb hbytes d2) rfl rfl rfl (by simp [acmp, hxy]) (by decide) rfl ?_
      refine XS.aloadN X0.here hexec rfl (hb hbytes d7) rfl rfl ?_
      exact Steps.refl _)
    obtain ⟨T3, X3, q3, st3⟩ := cinst X0 hexec hown (wk W (.classLink "java/lang/String" 10 "java/lang/String")) (hy.mv X0.warmed.alike hh0).1 (g := (mkF m 8 #[.val (.ref x), .val (.ref y), .unset] [.ref y])) rfl (rest := []) rfl (hb hbytes d8)
    have hh3 := q3.trans hh0
    have c4 : Steps p.tables e below (s₁.setTop (entryFrame m #[.ref x, .ref y] 3)) (T3.setTop (mkF m 15 #[.val (.ref x), .val (.ref y), .unset] [.ref y])) := (c2.trans (st3 _ (Steps.refl _))).trans (by
      refine XS.ifNo X3.here hexec rfl (hb hbytes d11) rfl (i0_eq_f (by decide)) ?_
      refine XS.aloadN X3.here hexec rfl (hb hbytes d14) rfl rfl ?_
      exact Steps.refl _)
    obtain ⟨T5, X5, q5, st5⟩ := cself X3 hexec hown (wk W (.classLink "java/lang/String" 10 "java/lang/String")) (hy.mv X3.warmed.alike hh3).1 (g := (mkF m 15 #[.val (.ref x), .val (.ref y), .unset] [.ref y])) rfl (rest := []) rfl (hb hbytes d15)
    have hh5 := q5.trans hh3
    have c6 : Steps p.tables e below (s₁.setTop (entryFrame m #[.ref x, .ref y] 3)) (T5.setTop (mkF m 19 #[.val (.ref x), .val (.ref y), .val (.ref y)] [])) := (c4.trans (st5 _ (Steps.refl _))).trans (by
      refine XS.astoreN X5.here hexec rfl (hb hbytes d18) rfl rfl rfl ?_
      exact Steps.refl _)
    obtain ⟨T7, X7, q7, st7⟩ := X5.sget hexec hown (wk W (.fieldLink "java/lang/String" 38 "java/lang/String" "COMPACT_STRINGS" "Z")) s1 (fun _ _ h => by rw [hh5]; exact h) (g := (mkF m 19 #[.val (.ref x), .val (.ref y), .val (.ref y)] [])) rfl (hb hbytes d19)
    have hh7 := q7.trans hh5
    have c8 : Steps p.tables e below (s₁.setTop (entryFrame m #[.ref x, .ref y] 3)) (T7.setTop (mkF m 26 #[.val (.ref x), .val (.ref y), .val (.ref y)] [.ref x])) := (c6.trans (st7 _ (Steps.refl _))).trans (by
      refine XS.ifNo X7.here hexec rfl (hb hbytes d22) rfl (i0_eq_f hz) ?_
      refine XS.aloadN X7.here hexec rfl (hb hbytes d25) rfl rfl ?_
      exact Steps.refl _)
    obtain ⟨T9, X9, q9, st9⟩ := X7.hget hexec hown (wk W (.fieldLink "java/lang/String" 15 "java/lang/String" "coder" "B")) (hx.mv X7.warmed.alike hh7).2.2.1 (g := (mkF m 26 #[.val (.ref x), .val (.ref y), .val (.ref y)] [.ref x])) rfl (rest := []) rfl (hb hbytes d26)
    have hh9 := q9.trans hh7
    have c10 : Steps p.tables e below (s₁.setTop (entryFrame m #[.ref x, .ref y] 3)) (T9.setTop (mkF m 30 #[.val (.ref x), .val (.ref y), .val (.ref y)] [.ref y, .int cd])) := (c8.trans (st9 _ (Steps.refl _))).trans (by
      refine XS.aloadN X9.here hexec rfl (hb hbytes d29) rfl rfl ?_
      exact Steps.refl _)
    obtain ⟨T11, X11, q11, st11⟩ := X9.hget hexec hown (wk W (.fieldLink "java/lang/String" 15 "java/lang/String" "coder" "B")) (hy.mv X9.warmed.alike hh9).2.2.1 (g := (mkF m 30 #[.val (.ref x), .val (.ref y), .val (.ref y)] [.ref y, .int cd])) rfl (rest := [.int cd]) rfl (hb hbytes d30)
    have hh11 := q11.trans hh9
    have c12 : Steps p.tables e below (s₁.setTop (entryFrame m #[.ref x, .ref y] 3)) (T11.setTop (mkF m 33 #[.val (.ref x), .val (.ref y), .val (.ref y)] [.int cd', .int cd])) := c10.trans (st11 _ (Steps.refl _))
    by_cases hcd : cd = cd'
    · subst hcd
      have c13 : Steps p.tables e below (s₁.setTop (entryFrame m #[.ref x, .ref y] 3)) (T11.setTop (mkF m 37 #[.val (.ref x), .val (.ref y), .val (.ref y)] [.ref x])) := c12.trans (by
        refine XS.icmpNo X11.here hexec rfl (hb hbytes d33) rfl (ii_ne_f rfl) ?_
        refine XS.aloadN X11.here hexec rfl (hb hbytes d36) rfl rfl ?_
        exact Steps.refl _)
      obtain ⟨T14, X14, q14, st14⟩ := X11.hget hexec hown (wk W (.fieldLink "java/lang/String" 9 "java/lang/String" "value" "[B")) (hx.mv X11.warmed.alike hh11).2.1 (g := (mkF m 37 #[.val (.ref x), .val (.ref y), .val (.ref y)] [.ref x])) rfl (rest := []) rfl (hb hbytes d37)
      have hh14 := q14.trans hh11
      have c15 : Steps p.tables e below (s₁.setTop (entryFrame m #[.ref x, .ref y] 3)) (T14.setTop (mkF m 41 #[.val (.ref x), .val (.ref y), .val (.ref y)] [.ref y, .ref t])) := (c13.trans (st14 _ (Steps.refl _))).trans (by
        refine XS.aloadN X14.here hexec rfl (hb hbytes d40) rfl rfl ?_
        exact Steps.refl _)
      obtain ⟨T16, X16, q16, st16⟩ := X14.hget hexec hown (wk W (.fieldLink "java/lang/String" 9 "java/lang/String" "value" "[B")) (hy.mv X14.warmed.alike hh14).2.1 (g := (mkF m 41 #[.val (.ref x), .val (.ref y), .val (.ref y)] [.ref y, .ref t])) rfl (rest := [.ref t]) rfl (hb hbytes d41)
      have hh16 := q16.trans hh14
      have c17 : Steps p.tables e below (s₁.setTop (entryFrame m #[.ref x, .ref y] 3)) (T16.setTop (mkF m 44 #[.val (.ref x), .val (.ref y), .val (.ref y)] [.ref t', .ref t])) := c15.trans (st16 _ (Steps.refl _))
      obtain ⟨v18, T18, X18, E18, g18⟩ := X16.callS hexec (LEq.law l t V t' V') hown (wks W (staticW "java/lang/String" 541 LEq.yN)) (wk W LEq.tab) (W := 0) (Nat.le_of_ble_eq_true rfl) (Nat.le_of_ble_eq_true rfl) (Nat.le_refl _) (Nat.le_refl _) (g := (mkF m 44 #[.val (.ref x), .val (.ref y), .val (.ref y)] [.ref t', .ref t])) rfl (by rw [hml]; rfl) c17 (argsL := [.ref t, .ref t']) (rest := []) rfl rfl (by show 2 * 0 + 0 ≤ _; decide) (hb hbytes d44) (⟨rfl, hx.2.2.2.1.mv X16.warmed.alike hh16, hx.2.2.2.2.1.ty, hy.2.2.2.1.mv X16.warmed.alike hh16, hy.2.2.2.2.1.ty⟩)
      obtain ⟨v, rfl, q18, hv⟩ := E18
      have iff := Cod.eqv hx.2.2.2.2.1 hy.2.2.2.2.1 hx.2.2.2.2.2 hy.2.2.2.2.2
      rcases hv with ⟨rfl, he⟩ | ⟨rfl, he⟩
      · have c19 : Steps p.tables e below (s₁.setTop (entryFrame m #[.ref x, .ref y] 3)) (T18.setTop (mkF m 55 #[.val (.ref x), .val (.ref y), .val (.ref y)] [.int 1])) := Steps.trans g18 (by
          refine XS.ifNo X18.here hexec rfl (hb hbytes d47) rfl (i0_eq_f (by decide)) ?_
          refine iconstV X18.here hexec rfl 1 (hb hbytes d50) (by decide) ?_
          refine XS.goto X18.here hexec rfl (pc0 := 51) rfl (hb hbytes d51) (by decide) rfl ?_
          exact Steps.refl _)
        exact ⟨T18, some (.int 1), _, _, _, X18, rfl, rfl, rfl, (fun h => by cases h), ⟨1, rfl, q18.trans hh16, Or.inl ⟨rfl, iff.mp he⟩⟩, fun fs hl => c19.trans (X18.ireturnOut hexec hret rfl (Or.inr (Or.inl rfl)) (hb hbytes d55) hl)⟩
      · have c19 : Steps p.tables e below (s₁.setTop (entryFrame m #[.ref x, .ref y] 3)) (T18.setTop (mkF m 55 #[.val (.ref x), .val (.ref y), .val (.ref y)] [.int 0])) := Steps.trans g18 (by
          refine XS.ifYes X18.here hexec rfl (pc0 := 47) rfl (hb hbytes d47) rfl (i0_eq_t rfl) (by decide) rfl ?_
          refine iconstV X18.here hexec rfl 0 (hb hbytes d54) (by decide) ?_
          exact Steps.refl _)
        exact ⟨T18, some (.int 0), _, _, _, X18, rfl, rfl, rfl, (fun h => by cases h), ⟨0, rfl, q18.trans hh16, Or.inr ⟨rfl, fun q => he (iff.mpr q)⟩⟩, fun fs hl => c19.trans (X18.ireturnOut hexec hret rfl (Or.inr (Or.inl rfl)) (hb hbytes d55) hl)⟩
    · have c13 : Steps p.tables e below (s₁.setTop (entryFrame m #[.ref x, .ref y] 3)) (T11.setTop (mkF m 55 #[.val (.ref x), .val (.ref y), .val (.ref y)] [.int 0])) := c12.trans (by
        refine XS.icmpYes X11.here hexec rfl (pc0 := 33) rfl (hb hbytes d33) rfl (ii_ne_t hcd) (by decide) rfl ?_
        refine iconstV X11.here hexec rfl 0 (hb hbytes d54) (by decide) ?_
        exact Steps.refl _)
      exact ⟨T11, some (.int 0), _, _, _, X11, rfl, rfl, rfl, (fun h => by cases h), ⟨0, rfl, hh11, Or.inr ⟨rfl, Cod.dif hx.2.2.2.2.1 hy.2.2.2.2.1 hcd⟩⟩, fun fs hl => c13.trans (X11.ireturnOut hexec hret rfl (Or.inr (Or.inl rfl)) (hb hbytes d55) hl)⟩
theorem pays {l : Launch} {R : Room} {p : Program} {e : Env} {below : List Frame} {s : State} {sargs : Array Value} {len W : Nat} (x t : Addr) (V : Cell) (cd : Int32) (n : Nat) (f : Nat → Int32) (y t' : Addr) (V' : Cell) (cd' : Int32) (k : Nat) (g : Nat → Int32) (z : Int32) (htab : tab.before sargs s = true) (hfr : 2 ≤ R.frames) (hlo : W + 28 ≤ R.locals) :
    Back l R p e below s sargs yN len W (fun A₁ a₁ => A₁.cells + 0 ≤ R.cells ∧ A₁.slots + 0 ≤ R.slots ∧ P x t V cd n f y t' V' cd' k g z a₁ A₁.U) (fun A₁ _ v₁ B₁ => Says01 (SameT n f k g) v₁ A₁.U B₁.U ∧ B₁.locs = A₁.locs ++ [] ∧ B₁.cells = A₁.cells + 0 ∧ B₁.slots = A₁.slots + 0) :=
  (law l x t V cd n f y t' V' cd' k g z).pays htab hfr (by omega)
end SEq
end StrChars
namespace StrChars.Road
open Jvm Sem ClassFile Op Lib Jvm.Stand Jvm.Free Jvm.Free.XT
open Jvm.Lib.Cold (StaticIs)
/-- the words of String.equals(Object) -/
abbrev wordsEq : List Jvm.Cond := [.code SEq.yN SEq.yB 3 (some .boolean), .initialized ST, .classLink ST 10 ST, .fieldLink ST 38 ST "COMPACT_STRINGS" "Z", .fieldLink ST 15 ST "coder" "B", .fieldLink ST 9 ST "value" "[B", .methodLink ST 541 LEq.yN, .static LEq.yN, .code LEq.yN LEq.yB 3 (some .boolean), .initialized "java/lang/StringLatin1"]
theorem tabEq_of {a : Array Value} {s : State} (h : ∀ w ∈ wordsEq, w.before a s = true) : SEq.tab.before a s = true := by
  have hl : LEq.tab.before a s = true := unparts (wk h (.code LEq.yN LEq.yB 3 (some .boolean))) (wks h (.initialized LEq.yN.cls :: LEq.site))
  have q := consq hl h
  exact unparts (wk q (.code SEq.yN SEq.yB 3 (some .boolean))) (wks q (.initialized SEq.yN.cls :: SEq.site))
theorem movedEq {Z s : State} {a0 args : Array Value} (hZ : Z.Warmed39 s.vm) (hw : ∀ d ∈ wordsEq, d.before a0 Z = true) : ∀ d ∈ wordsEq, d.before args s = true := fun d hd => by
  have t : ∀ d ∈ wordsEq, (d.onTables && d.keepsFace) = true := by decide +kernel
  exact RoadKit.mv hZ (hw d hd) (t d hd)
/-- the road's facts of a String, as the laws ask it -/
theorem txt_of {Z U : State} {a0 : Array Value} {kI : Nat} (wi : (Jvm.Cond.instantiable ST kI).before a0 Z = true) (al : Z.vm.Alike U.vm) {x t : Addr} {kb : ClassId} {cs : List Int32} {cd N2 : Int32} {vs : List Value} (E : RoadKit.Exa Z U.heap x ST) (V : RoadKit.Fld Z U.heap x ST "value" "[B" (.ref t)) (C : RoadKit.Fld Z U.heap x ST "coder" "B" (.int cd)) (K : RoadKit.Arv Z U.heap t kb .byte N2 vs (.int 0)) (hc : CodA cs cd N2 vs) (hb : ∀ c ∈ cs, ¬ c < 0 ∧ ¬ (65535 : Int32) < c) (l2 : cs.length ≤ 4000) :
    ∃ A, Txt x t A cd cs.length (fun j => cs.getD j 0) U := by
  obtain ⟨A, K1, K2, K3, K4, K5, K6⟩ := K
  have hcod := hc.cod (by omega) K3 K5
  obtain ⟨D, fV, fC, hB, F1, F2, g1, g2, -, -⟩ := strObj wi al E V C
  exact ⟨A, ⟨_, hB.2.2.1, D, hB.1, rfl, by cases q : D.vm <;> first | rfl | exact absurd q (hB.2.1.2 _)⟩, Has.of hB F1 g1, Has.of hB F2 g2, ⟨K1.1, State.isArrayOf_alike al K1.2.1, K1.2.2, by rcases hcod with ⟨-, q, -⟩ | ⟨-, q, -⟩ <;> omega⟩, hcod, fun j hj => by
    have e : cs.getD j 0 = cs[j] := by simp [List.getD_eq_getElem?_getD, hj]
    show ¬ cs.getD j 0 < 0 ∧ ¬ 65535 < cs.getD j 0
    rw [e]; exact hb _ (List.getElem_mem _)⟩
theorem same_list (cs ds : List Int32) : SameT cs.length (fun j => cs.getD j 0) ds.length (fun j => ds.getD j 0) ↔ cs = ds := by
  constructor
  · rintro ⟨e, q⟩
    refine List.ext_getElem e fun j h1 h2 => ?_
    have := q j h1
    simpa [List.getD_eq_getElem?_getD, h1, h2] using this
  · rintro rfl
    exact ⟨rfl, fun _ _ => rfl⟩
/-- **equals(Object) OF TWO SUCH STRINGS**: 1 just where the chars are the same -/
theorem eqW {p : Program} {l : Launch} {e : Env} {R : Room} {s : State} {args : Array Value} {below : List Frame} {len W : Nat} {Z : State} {a0 : Array Value} {h : Heap} (hZ : Z.Warmed39 s.vm) (hw : ∀ d ∈ wordsEq, d.before a0 Z = true) {kI : Nat} (wi : (Jvm.Cond.instantiable ST kI).before a0 Z = true)
    {x t : Addr} {kb : ClassId} {cs : List Int32} {cd N2 : Int32} {vs : List Value} (E : RoadKit.Exa Z h x ST) (V : RoadKit.Fld Z h x ST "value" "[B" (.ref t)) (C : RoadKit.Fld Z h x ST "coder" "B" (.int cd)) (K : RoadKit.Arv Z h t kb .byte N2 vs (.int 0)) (hc : CodA cs cd N2 vs) (hb : ∀ c ∈ cs, ¬ c < 0 ∧ ¬ (65535 : Int32) < c) (l2 : cs.length ≤ 4000)
    {y t' : Addr} {kb' : ClassId} {ds : List Int32} {cd' N2' : Int32} {vs' : List Value} (E' : RoadKit.Exa Z h y ST) (V' : RoadKit.Fld Z h y ST "value" "[B" (.ref t')) (C' : RoadKit.Fld Z h y ST "coder" "B" (.int cd')) (K' : RoadKit.Arv Z h t' kb' .byte N2' vs' (.int 0)) (hc' : CodA ds cd' N2' vs') (hb' : ∀ c ∈ ds, ¬ c < 0 ∧ ¬ (65535 : Int32) < c) (l2' : ds.length ≤ 4000)
    {z : Int32} (S : RoadKit.Sta Z h ST "COMPACT_STRINGS" "Z" (.int z)) (hz : ¬ z = 0) (hfr : 2 ≤ R.frames) (hlo : W + 28 ≤ R.locals) :
    Back l R p e below s args (⟨"java/lang/String", "equals", "(Ljava/lang/Object;)Z"⟩ : MethodName) len W (fun P a => a = #[.ref x, .ref y] ∧ P.U.heap = h ∧ P.cells + 0 ≤ R.cells ∧ P.slots + 0 ≤ R.slots)
      (fun P _ v B => ∃ L, (((v = some (.int 1) ∧ cs = ds) ∨ (v = some (.int 0) ∧ ¬ cs = ds)) ∧ L = [] ∧ B.U.heap = h) ∧ B.locs = P.locs ++ L ∧ B.cells = P.cells + 0 ∧ B.slots = P.slots + 0) := by
  intro m meth c P g ig mk a X hg hsize hdg hW hn hp'
  obtain ⟨rfl, rfl, r1, r2⟩ := hp'
  have al : Z.vm.Alike P.U.vm := hZ.alike.trans X.warmed.alike
  obtain ⟨A, hx⟩ := txt_of wi al E V C K hc hb l2
  obtain ⟨A', hy⟩ := txt_of wi al E' V' C' K' hc' hb' l2'
  obtain ⟨v, B, X', ⟨⟨w, hv, hh, hq⟩, hl, hk, hs⟩, st⟩ := SEq.pays x t A cd cs.length (fun j => cs.getD j 0) y t' A' cd' ds.length (fun j => ds.getD j 0) z (tabEq_of (movedEq hZ hw)) hfr hlo m meth c P g ig mk _ X hg hsize hdg hW hn ⟨r1, r2, rfl, hx, hy, sta_is al S, hz⟩
  refine ⟨v, B, X', ⟨[], ⟨?_, rfl, hh⟩, hl, hk, hs⟩, st⟩
  rcases hq with ⟨rfl, q⟩ | ⟨rfl, q⟩
  · exact Or.inl ⟨hv, (same_list cs ds).mp q⟩
  · exact Or.inr ⟨hv, fun e => q ((same_list cs ds).mpr e)⟩
end StrChars.Road
end Jvm.Pilot.@@N@@
namespace Jvm.Pilot.@@N@@
open Jvm Jvm.ClassFile Sem Op Lib Jvm.Free Jvm.Stand Jvm.LawKit Jvm.RoadKit Bundle Jvm.Pilot.@@N@@.Jvm.D
section OwnKit
variable {p : Program} {l : Launch} {e : Env} {R : Room} {s : State} {m : MethodId} {args : Array Value} {below : List Frame} {meth : Method} {c : Code} {T T' : State} {locs : List Loc} {cells slots ck sk : Nat} {FE : State → Outcome → State → List Loc → Nat → Nat → Prop} {Q : Option Value → Heap → List Loc → Prop} {g g' : JFrame}
/-- from the state T with the top frame g the body ends, and Q says how -/
def Goes (p : Program) (e : Env) (below : List Frame) (s : State) (FE : State → Outcome → State → List Loc → Nat → Nat → Prop) (ck sk : Nat) (Q : Option Value → Heap → List Loc → Prop) (T : State) (g : JFrame) : Prop :=
  ∃ s₂ o, Steps p.tables e below (T.setTop g) s₂ ∧ s₂.status = .running ∧ Ended s₂ below o ∧ ∃ v L, o = .returned v ∧ Q v s₂.heap L ∧ FE s o s₂ L ck sk
theorem go (h : ∀ t, Steps p.tables e below (T'.setTop g') t → Steps p.tables e below (T.setTop g) t) (k : Goes p e below s FE ck sk Q T' g') : Goes p e below s FE ck sk Q T g := by
  obtain ⟨s₂, o, h1, r⟩ := k
  exact ⟨s₂, o, h _ h1, r⟩
theorem goV (h : Steps p.tables e below (T.setTop g) (T'.setTop g')) (k : Goes p e below s FE ck sk Q T' g') : Goes p e below s FE ck sk Q T g := go (fun _ kt => h.trans kt) k
theorem goEq (h : g = g') (k : Goes p e below s FE ck sk Q T g') : Goes p e below s FE ck sk Q T g := h ▸ k
theorem goVia {T₂ : State} {g₂ : JFrame} (h : Goes p e below s FE ck sk Q T₂ g₂ → Goes p e below s FE ck sk Q T g) (k : Goes p e below s FE ck sk Q T₂ g₂) : Goes p e below s FE ck sk Q T g := h k
theorem goRetN (X : Stand p l e R s m args below meth c T locs cells slots) (hx : p.tables.exec = Jvm.exec) (hlk : meth.locks = false) {pc : Nat} {Ls : Array Slot} {z : Int32} {t : FieldType} {rest : List Value} (hret : meth.sig.returnType = some t) (ht : t = .boolean ∨ t = .byte ∨ t = .char ∨ t = .short) (hd : decode c.code pc = .ok (.ireturn, 1))
    (hq : Q (some (.int (nar t z))) T.heap locs) (h1 : cells ≤ ck) (h2 : slots ≤ sk) : Goes p e below s FrameEnd ck sk Q T (mkF m pc Ls (.int z :: rest)) := by
  obtain ⟨fs, hr, hrun, hended, hW, hsame⟩ := X.leave (v := some (.int (nar t z))) (fun h => by rw [hret] at h; cases h)
  exact ⟨_, _, retN X hx hret ht hd hr, hrun, hended, _, _, rfl, hq, ⟨_, rfl⟩, hW, hsame.mono h1 h2⟩
theorem goRetI (X : Stand p l e R s m args below meth c T locs cells slots) (hx : p.tables.exec = Jvm.exec) (hlk : meth.locks = false) {pc : Nat} {Ls : Array Slot} {z : Int32} {rest : List Value} (hret : meth.sig.returnType = some .int) (hd : decode c.code pc = .ok (.ireturn, 1))
    (hq : Q (some (.int z)) T.heap locs) (h1 : cells ≤ ck) (h2 : slots ≤ sk) : Goes p e below s FrameEnd ck sk Q T (mkF m pc Ls (.int z :: rest)) := by
  obtain ⟨fs, hr, hrun, hended, hW, hsame⟩ := X.leave (v := some (.int z)) (fun h => by rw [hret] at h; cases h)
  exact ⟨_, _, retOut X hx hret rfl (Or.inl ⟨rfl, Or.inl rfl, z, rfl⟩) hd hr, hrun, hended, _, _, rfl, hq, ⟨_, rfl⟩, hW, hsame.mono h1 h2⟩
theorem goRetJ (X : Stand p l e R s m args below meth c T locs cells slots) (hx : p.tables.exec = Jvm.exec) (hlk : meth.locks = false) {pc : Nat} {Ls : Array Slot} {z : Int64} {rest : List Value} (hret : meth.sig.returnType = some .long) (hd : decode c.code pc = .ok (.lreturn, 1))
    (hq : Q (some (.long z)) T.heap locs) (h1 : cells ≤ ck) (h2 : slots ≤ sk) : Goes p e below s FrameEnd ck sk Q T (mkF m pc Ls (.long z :: rest)) := by
  obtain ⟨fs, hr, hrun, hended, hW, hsame⟩ := X.leave (v := some (.long z)) (fun h => by rw [hret] at h; cases h)
  exact ⟨_, _, retOut X hx hret rfl (Or.inr (Or.inl ⟨rfl, rfl, z, rfl⟩)) hd hr, hrun, hended, _, _, rfl, hq, ⟨_, rfl⟩, hW, hsame.mono h1 h2⟩
theorem goRetA (X : Stand p l e R s m args below meth c T locs cells slots) (hx : p.tables.exec = Jvm.exec) (hlk : meth.locks = false) {pc : Nat} {Ls : Array Slot} {w : Value} {t : FieldType} {rest : List Value} (hret : meth.sig.returnType = some t) (ht : t.isReference = true) (hn : narrow t w = w) (hw : w.isRef = true) (hd : decode c.code pc = .ok (.areturn, 1))
    (hq : Q (some w) T.heap locs) (h1 : cells ≤ ck) (h2 : slots ≤ sk) : Goes p e below s FrameEnd ck sk Q T (mkF m pc Ls (w :: rest)) := by
  obtain ⟨fs, hr, hrun, hended, hW, hsame⟩ := X.leave (v := some w) (fun h => by rw [hret] at h; cases h)
  exact ⟨_, _, retOut X hx hret hn (Or.inr (Or.inr (Or.inr (Or.inr ⟨rfl, ht, hw⟩)))) hd hr, hrun, hended, _, _, rfl, hq, ⟨_, rfl⟩, hW, hsame.mono h1 h2⟩
theorem goRetV (X : Stand p l e R s m args below meth c T locs cells slots) (hx : p.tables.exec = Jvm.exec) (hlk : meth.locks = false) {pc : Nat} {Ls : Array Slot} (hret : meth.sig.returnType = none) (hd : decode c.code pc = .ok (.return_, 1))
    (hq : Q none T.heap locs) (h1 : cells ≤ ck) (h2 : slots ≤ sk) : Goes p e below s FrameEnd ck sk Q T (mkF m pc Ls []) := by
  obtain ⟨fs, hr, hrun, hended, hW, hsame⟩ := X.leave (v := none) (fun _ => rfl)
  exact ⟨_, _, X.returnOut hx hret hd hr, hrun, hended, _, _, rfl, hq, ⟨_, rfl⟩, hW, hsame.mono h1 h2⟩
theorem goRetD (X : Stand p l e R s m args below meth c T locs cells slots) (hx : p.tables.exec = Jvm.exec) (hlk : meth.locks = false) {pc : Nat} {Ls : Array Slot} {z : UInt64} {rest : List Value} (hret : meth.sig.returnType = some .double) (hd : decode c.code pc = .ok (.dreturn, 1))
    (hq : Q (some (.double z)) T.heap locs) (h1 : cells ≤ ck) (h2 : slots ≤ sk) : Goes p e below s FrameEnd ck sk Q T (mkF m pc Ls (.double z :: rest)) := by
  obtain ⟨fs, hr, hrun, hended, hW, hsame⟩ := X.leave (v := some (.double z)) (fun h => by rw [hret] at h; cases h)
  exact ⟨_, _, retOut X hx hret rfl (Or.inr (Or.inr (Or.inl ⟨rfl, rfl, z, rfl⟩))) hd hr, hrun, hended, _, _, rfl, hq, ⟨_, rfl⟩, hW, hsame.mono h1 h2⟩
theorem goRetNW {vm0 : Vm} {kk : Nat} (X : Stand p l e R (s.setVm vm0) m args below meth c T locs cells slots) (hx : p.tables.exec = Jvm.exec) (hlk : meth.locks = false) (hS : s.Since vm0 kk) (hk : kk ≤ T.heap.size) {pc : Nat} {Ls : Array Slot} {z : Int32} {t : FieldType} {rest : List Value} (hret : meth.sig.returnType = some t) (ht : t = .boolean ∨ t = .byte ∨ t = .char ∨ t = .short) (hd : decode c.code pc = .ok (.ireturn, 1))
    (hq : Q (some (.int (nar t z))) T.heap locs) (h1 : cells ≤ ck) (h2 : slots ≤ sk) : Goes p e below s ReturnedEndW ck sk Q T (mkF m pc Ls (.int z :: rest)) := by
  obtain ⟨fs, hr, hrun, hended, hend⟩ := X.leaveW hS hk (v := some (.int (nar t z))) (fun h => by rw [hret] at h; cases h)
  exact ⟨_, _, retN X hx hret ht hd hr, hrun, hended, _, _, rfl, hq, hend.1, hend.2.1, hend.2.2.1, hend.2.2.2.mono h1 h2⟩
theorem goRetIW {vm0 : Vm} {kk : Nat} (X : Stand p l e R (s.setVm vm0) m args below meth c T locs cells slots) (hx : p.tables.exec = Jvm.exec) (hlk : meth.locks = false) (hS : s.Since vm0 kk) (hk : kk ≤ T.heap.size) {pc : Nat} {Ls : Array Slot} {z : Int32} {rest : List Value} (hret : meth.sig.returnType = some .int) (hd : decode c.code pc = .ok (.ireturn, 1))
    (hq : Q (some (.int z)) T.heap locs) (h1 : cells ≤ ck) (h2 : slots ≤ sk) : Goes p e below s ReturnedEndW ck sk Q T (mkF m pc Ls (.int z :: rest)) := by
  obtain ⟨fs, hr, hrun, hended, hend⟩ := X.leaveW hS hk (v := some (.int z)) (fun h => by rw [hret] at h; cases h)
  exact ⟨_, _, retOut X hx hret rfl (Or.inl ⟨rfl, Or.inl rfl, z, rfl⟩) hd hr, hrun, hended, _, _, rfl, hq, hend.1, hend.2.1, hend.2.2.1, hend.2.2.2.mono h1 h2⟩
theorem goRetJW {vm0 : Vm} {kk : Nat} (X : Stand p l e R (s.setVm vm0) m args below meth c T locs cells slots) (hx : p.tables.exec = Jvm.exec) (hlk : meth.locks = false) (hS : s.Since vm0 kk) (hk : kk ≤ T.heap.size) {pc : Nat} {Ls : Array Slot} {z : Int64} {rest : List Value} (hret : meth.sig.returnType = some .long) (hd : decode c.code pc = .ok (.lreturn, 1))
    (hq : Q (some (.long z)) T.heap locs) (h1 : cells ≤ ck) (h2 : slots ≤ sk) : Goes p e below s ReturnedEndW ck sk Q T (mkF m pc Ls (.long z :: rest)) := by
  obtain ⟨fs, hr, hrun, hended, hend⟩ := X.leaveW hS hk (v := some (.long z)) (fun h => by rw [hret] at h; cases h)
  exact ⟨_, _, retOut X hx hret rfl (Or.inr (Or.inl ⟨rfl, rfl, z, rfl⟩)) hd hr, hrun, hended, _, _, rfl, hq, hend.1, hend.2.1, hend.2.2.1, hend.2.2.2.mono h1 h2⟩
theorem goRetAW {vm0 : Vm} {kk : Nat} (X : Stand p l e R (s.setVm vm0) m args below meth c T locs cells slots) (hx : p.tables.exec = Jvm.exec) (hlk : meth.locks = false) (hS : s.Since vm0 kk) (hk : kk ≤ T.heap.size) {pc : Nat} {Ls : Array Slot} {w : Value} {t : FieldType} {rest : List Value} (hret : meth.sig.returnType = some t) (ht : t.isReference = true) (hn : narrow t w = w) (hw : w.isRef = true) (hd : decode c.code pc = .ok (.areturn, 1))
    (hq : Q (some w) T.heap locs) (h1 : cells ≤ ck) (h2 : slots ≤ sk) : Goes p e below s ReturnedEndW ck sk Q T (mkF m pc Ls (w :: rest)) := by
  obtain ⟨fs, hr, hrun, hended, hend⟩ := X.leaveW hS hk (v := some w) (fun h => by rw [hret] at h; cases h)
  exact ⟨_, _, retOut X hx hret hn (Or.inr (Or.inr (Or.inr (Or.inr ⟨rfl, ht, hw⟩)))) hd hr, hrun, hended, _, _, rfl, hq, hend.1, hend.2.1, hend.2.2.1, hend.2.2.2.mono h1 h2⟩
theorem goRetVW {vm0 : Vm} {kk : Nat} (X : Stand p l e R (s.setVm vm0) m args below meth c T locs cells slots) (hx : p.tables.exec = Jvm.exec) (hlk : meth.locks = false) (hS : s.Since vm0 kk) (hk : kk ≤ T.heap.size) {pc : Nat} {Ls : Array Slot} (hret : meth.sig.returnType = none) (hd : decode c.code pc = .ok (.return_, 1))
    (hq : Q none T.heap locs) (h1 : cells ≤ ck) (h2 : slots ≤ sk) : Goes p e below s ReturnedEndW ck sk Q T (mkF m pc Ls []) := by
  obtain ⟨fs, hr, hrun, hended, hend⟩ := X.leaveW hS hk (v := none) (fun _ => rfl)
  exact ⟨_, _, X.returnOut hx hret hd hr, hrun, hended, _, _, rfl, hq, hend.1, hend.2.1, hend.2.2.1, hend.2.2.2.mono h1 h2⟩
theorem goRetDW {vm0 : Vm} {kk : Nat} (X : Stand p l e R (s.setVm vm0) m args below meth c T locs cells slots) (hx : p.tables.exec = Jvm.exec) (hlk : meth.locks = false) (hS : s.Since vm0 kk) (hk : kk ≤ T.heap.size) {pc : Nat} {Ls : Array Slot} {z : UInt64} {rest : List Value} (hret : meth.sig.returnType = some .double) (hd : decode c.code pc = .ok (.dreturn, 1))
    (hq : Q (some (.double z)) T.heap locs) (h1 : cells ≤ ck) (h2 : slots ≤ sk) : Goes p e below s ReturnedEndW ck sk Q T (mkF m pc Ls (.double z :: rest)) := by
  obtain ⟨fs, hr, hrun, hended, hend⟩ := X.leaveW hS hk (v := some (.double z)) (fun h => by rw [hret] at h; cases h)
  exact ⟨_, _, retOut X hx hret rfl (Or.inr (Or.inr (Or.inl ⟨rfl, rfl, z, rfl⟩))) hd hr, hrun, hended, _, _, rfl, hq, hend.1, hend.2.1, hend.2.2.1, hend.2.2.2.mono h1 h2⟩
/-- the end of a body that may load constants and keeps the invariant on EL's -/
def EndH (Z : State) (EL : List (String × Nat)) (s : State) (o : Outcome) (t : State) (L : List Loc) (k n : Nat) : Prop := CHr Z EL s.vm s.heap t.vm t.heap ∧ ReturnedEndW s o t L k n
theorem goRetVH {Z : State} {EL : List (String × Nat)} {vm0 : Vm} {kk : Nat} (X : Stand p l e R (s.setVm vm0) m args below meth c T locs cells slots) (hx : p.tables.exec = Jvm.exec) (hlk : meth.locks = false) (hS : s.Since vm0 kk) (hk : kk ≤ T.heap.size) (hC : CHr Z EL s.vm s.heap T.vm T.heap) {pc : Nat} {Ls : Array Slot} (hret : meth.sig.returnType = none) (hd : decode c.code pc = .ok (.return_, 1))
    (hq : Q none T.heap locs) (h1 : cells ≤ ck) (h2 : slots ≤ sk) : Goes p e below s (EndH Z EL) ck sk Q T (mkF m pc Ls []) := by
  obtain ⟨fs, hr, hrun, hended, hend⟩ := X.leaveW hS hk (v := none) (fun _ => rfl)
  exact ⟨_, _, X.returnOut hx hret hd hr, hrun, hended, _, _, rfl, hq, hC, hend.1, hend.2.1, hend.2.2.1, hend.2.2.2.mono h1 h2⟩
theorem goRetAH {Z : State} {EL : List (String × Nat)} {vm0 : Vm} {kk : Nat} (X : Stand p l e R (s.setVm vm0) m args below meth c T locs cells slots) (hx : p.tables.exec = Jvm.exec) (hlk : meth.locks = false) (hS : s.Since vm0 kk) (hk : kk ≤ T.heap.size) (hC : CHr Z EL s.vm s.heap T.vm T.heap) {pc : Nat} {Ls : Array Slot} {w : Value} {t : FieldType} {rest : List Value} (hret : meth.sig.returnType = some t) (ht : t.isReference = true) (hn : narrow t w = w) (hw : w.isRef = true) (hd : decode c.code pc = .ok (.areturn, 1))
    (hq : Q (some w) T.heap locs) (h1 : cells ≤ ck) (h2 : slots ≤ sk) : Goes p e below s (EndH Z EL) ck sk Q T (mkF m pc Ls (w :: rest)) := by
  obtain ⟨fs, hr, hrun, hended, hend⟩ := X.leaveW hS hk (v := some w) (fun h => by rw [hret] at h; cases h)
  exact ⟨_, _, retOut X hx hret hn (Or.inr (Or.inr (Or.inr (Or.inr ⟨rfl, ht, hw⟩)))) hd hr, hrun, hended, _, _, rfl, hq, hC, hend.1, hend.2.1, hend.2.2.1, hend.2.2.2.mono h1 h2⟩
theorem kq0 {ws : List Addr} {n : Nat} : ∀ x ∈ ([] : List Addr), x ∈ ws ∨ n ≤ x := fun _ q => nomatch q
theorem kqS {ws vs : List Addr} {n : Nat} {a : Addr} (h : a ∈ ws ∨ n ≤ a) (r : ∀ x ∈ vs, x ∈ ws ∨ n ≤ x) : ∀ x ∈ a :: vs, x ∈ ws ∨ n ≤ x := fun x q => by
  rcases List.mem_cons.mp q with rfl | q
  · exact h
  · exact r x q
theorem own_inv {Z : State} {EL : List (String × Nat)} {vm vm1 : Vm} {h h' : Heap} (A : CHr Z EL vm h vm1 h') : CHv Z EL vm1 h' := A.1
theorem own_l0 {x y : Int64} (h : x = y) : ifCond.holds .eq (lcmpW x y) = true ∧ ifCond.holds .ne (lcmpW x y) = false := by rw [if0, if0]; exact teq ((lw_eq x y).mpr h)
theorem own_l1 {x y : Int64} (h : ¬ x = y) : ifCond.holds .eq (lcmpW x y) = false ∧ ifCond.holds .ne (lcmpW x y) = true := by rw [if0, if0]; exact feq fun q => h ((lw_eq x y).mp q)
theorem own_l2 {x y : Int64} (h : x < y) : ifCond.holds .lt (lcmpW x y) = true ∧ ifCond.holds .ge (lcmpW x y) = false := by rw [if0, if0]; exact ⟨(tlt ((lw_lt x y).mpr h)).1, (tlt ((lw_lt x y).mpr h)).2.1⟩
theorem own_l3 {x y : Int64} (h : ¬ x < y) : ifCond.holds .lt (lcmpW x y) = false ∧ ifCond.holds .ge (lcmpW x y) = true := by
  rw [if0, if0]
  have q : ¬ lcmpW x y < 0 := fun q => h ((lw_lt x y).mp q)
  exact ⟨(flt q).1, (flt q).2.1⟩
theorem own_l4 {x y : Int64} (h : y < x) : ifCond.holds .gt (lcmpW x y) = true ∧ ifCond.holds .le (lcmpW x y) = false := by rw [if0, if0]; exact ⟨(tlt ((lw_gt x y).mpr h)).2.2.1, (tlt ((lw_gt x y).mpr h)).2.2.2⟩
theorem own_l5 {x y : Int64} (h : ¬ y < x) : ifCond.holds .gt (lcmpW x y) = false ∧ ifCond.holds .le (lcmpW x y) = true := by
  rw [if0, if0]
  have q : ¬ 0 < lcmpW x y := fun q => h ((lw_gt x y).mp q)
  exact ⟨(flt q).2.2.1, (flt q).2.2.2⟩
def Two (a b : Slot) : Prop := (a = .unset ∧ b = .unset) ∨ ∃ w, a = .val (.long w) ∧ b = .second
theorem Two.u : Two .unset .unset := Or.inl ⟨rfl, rfl⟩
theorem Two.val {w : Int64} : Two (.val (.long w)) .second := Or.inr ⟨w, rfl, rfl⟩
end OwnKit
theorem nn_toInt {i : Nat} (h : i < 2 ^ 31) : (Int32.ofNat i).toInt = i := Int32.toInt_ofNat_of_lt h
theorem nn_nat {i : Nat} (h : i < 2 ^ 31) : (Int32.ofNat i).toNatClampNeg = i := by
  simp only [Int32.toNatClampNeg, nn_toInt h]; rfl
theorem nn_lt {i j : Nat} (hi : i < 2 ^ 31) (hj : j < 2 ^ 31) : Int32.ofNat i < Int32.ofNat j ↔ i < j := by
  rw [Int32.lt_iff_toInt_lt, nn_toInt hi, nn_toInt hj]; omega
theorem nn_eq {i j : Nat} (hi : i < 2 ^ 31) (hj : j < 2 ^ 31) : Int32.ofNat i = Int32.ofNat j ↔ i = j := by
  rw [← Int32.toInt_inj, nn_toInt hi, nn_toInt hj]; omega
theorem nn_add (i j : Nat) : Int32.ofNat i + Int32.ofNat j = Int32.ofNat (i + j) := (Int32.ofNat_add i j).symm
theorem nn_mul (i j : Nat) : Int32.ofNat i * Int32.ofNat j = Int32.ofNat (i * j) := (Int32.ofNat_mul i j).symm
theorem nn_sub {i j : Nat} (h : j ≤ i) : Int32.ofNat i - Int32.ofNat j = Int32.ofNat (i - j) := by
  rw [Int32.sub_eq_iff_eq_add, nn_add, Nat.sub_add_cancel h]
theorem nn_of {x : Int32} (h : 0 ≤ x.toInt) : x = Int32.ofNat x.toInt.toNat := by
  apply Int32.toInt_inj.mp
  have := x.toInt_lt
  rw [nn_toInt (by omega)]; omega
theorem nn_neg {i : Nat} (hi : i < 2 ^ 31) : ¬ Int32.ofNat i < 0 := by
  intro q; have q := Int32.lt_iff_toInt_lt.mp q; rw [nn_toInt hi] at q; simp at q; omega
theorem own_and31 (x : Int32) : 0 ≤ (x &&& 2147483647).toInt := by
  have h : (x &&& 2147483647).toBitVec.msb = false := by
    show (x.toBitVec &&& 2147483647#32).msb = false
    rw [BitVec.msb_and, show (2147483647#32).msb = false from by decide, Bool.and_false]
  show 0 ≤ (x &&& 2147483647).toBitVec.toInt
  rw [BitVec.toInt_eq_msb_cond, h]; simp
theorem nn_rem {x : Int32} (h : 0 ≤ x.toInt) {k : Nat} (hk : 0 < k) (hk2 : k < 2 ^ 31) : ∃ i, i < k ∧ x % Int32.ofNat k = Int32.ofNat i := by
  have e : (x % Int32.ofNat k).toInt = x.toInt.tmod k := by rw [Int32.toInt_mod, nn_toInt hk2]
  have h1 : 0 ≤ x.toInt.tmod k := Int.tmod_nonneg _ h
  have h2 : x.toInt.tmod k < k := Int.tmod_lt_of_pos _ (by omega)
  refine ⟨(x % Int32.ofNat k).toInt.toNat, by omega, nn_of (by omega)⟩
theorem own_mask64 (x : Int64) : 0 ≤ (x &&& 9223372036854775807).toInt := by
  have h : (x &&& 9223372036854775807).toBitVec.msb = false := by
    show (x.toBitVec &&& 9223372036854775807#64).msb = false
    rw [BitVec.msb_and, show (9223372036854775807#64).msb = false from by decide, Bool.and_false]
  show 0 ≤ (x &&& 9223372036854775807).toBitVec.toInt
  rw [BitVec.toInt_eq_msb_cond, h]; simp
theorem own_and7 (x : Int32) : ∃ i, i < 8 ∧ x &&& 7 = Int32.ofNat i := by
  refine ⟨(x &&& 7).toBitVec.toNat, ?_, ?_⟩
  · show (x.toBitVec &&& 7#32).toNat < 8
    rw [BitVec.toNat_and]; exact Nat.lt_of_le_of_lt Nat.and_le_right (by decide)
  · apply Int32.toBitVec_inj.mp
    show _ = BitVec.ofNat 32 _
    rw [BitVec.ofNat_toNat, BitVec.setWidth_eq]
theorem own_andk (x : Int32) {k : Nat} (hk : k < 2 ^ 32) : ∃ i, i ≤ k ∧ x &&& Int32.ofNat k = Int32.ofNat i := by
  refine ⟨(x &&& Int32.ofNat k).toBitVec.toNat, ?_, ?_⟩
  · show (x.toBitVec &&& BitVec.ofNat 32 k).toNat ≤ k
    rw [BitVec.toNat_and, BitVec.toNat_ofNat, Nat.mod_eq_of_lt hk]; exact Nat.and_le_right
  · apply Int32.toBitVec_inj.mp
    show _ = BitVec.ofNat 32 _
    rw [BitVec.ofNat_toNat, BitVec.setWidth_eq]
section OwnArr
variable {p : Program} {l : Launch} {e : Env} {R : Room} {s : State} {m : MethodId} {args : Array Value} {below : List Frame} {meth : Method} {c : Code} {T : State} {locs : List Loc} {cells slots : Nat} {Z : State} {h h' : Heap} {a b : Addr} {v : Value} {sl : Nat} {ty : FieldType} {n : Int32} {f f' : Nat → Value} {ws : List Addr}
/-- an array of n places: place i holds f i -/
def Aw (Z : State) (h : Heap) (a : Addr) (ty : FieldType) (n : Int32) (f : Nat → Value) : Prop := ∃ c : Cell, Arr Z h a c ty ∧ c.slots.size = n.toNatClampNeg ∧ ¬ n < 0 ∧ (∀ i, i < c.slots.size → c.slots[i]? = some (f i)) ∧ ∀ i, i < c.slots.size → fits ty (f i) = true
def upd (f : Nat → Value) (j : Nat) (v : Value) : Nat → Value := fun i => if i = j then v else f i
theorem Aw.lt (F : Aw Z h a ty n f) : a < h.size := by obtain ⟨c, A, -⟩ := F; exact A.lt
theorem Aw.ext (F : Aw Z h a ty n f) (E : Ext h h') : Aw Z h' a ty n f := by obtain ⟨c, A, r⟩ := F; exact ⟨c, A.ext E, r⟩
theorem Aw.other (F : Aw Z h b ty n f) (W : Wr h h' a sl v) (q : b ≠ a) : Aw Z h' b ty n f := by obtain ⟨c, A, r⟩ := F; exact ⟨c, A.other W q, r⟩
theorem Aw.keep (F : Aw Z h a ty n f) (K : Keep h h' ws) (q : a ∉ ws) : Aw Z h' a ty n f := by obtain ⟨c, A, r⟩ := F; exact ⟨c, ⟨K.2.1 a c A.1 q, A.2⟩, r⟩
theorem Aw.new {k : ClassId} (A : Arr Z h a (newA k ty n) ty) (q : ¬ n < 0) : Aw Z h a ty n (fun _ => defaultValue ty) := ⟨_, A, sz_new _ _ _, q, fun i hi => by rw [sz_new] at hi; simp [newA, hi], fun i _ => by cases ty <;> rfl⟩
theorem Aw.set (F : Aw Z h a ty n f) {j : Nat} (W : Wr h h' a j v) (hv : fits ty v = true) : Aw Z h' a ty n (upd f j v) := by
  obtain ⟨c, A, S, N, H, G⟩ := F
  refine ⟨_, A.same W, by rw [sz_set]; exact S, N, fun i hi => ?_, fun i hi => ?_⟩ <;> rw [sz_set] at hi <;> unfold upd <;> split
  · rename_i q; subst q; simp [Cell.setSlot, hi]
  · rename_i q; simp only [Cell.setSlot]; rw [Array.getElem?_setIfInBounds_ne (Ne.symm q)]; exact H i hi
  · exact hv
  · exact G i hi
theorem Aw.congr (F : Aw Z h a ty n f) (q : ∀ i, i < n.toNatClampNeg → f' i = f i) : Aw Z h a ty n f' := by
  obtain ⟨c, A, S, N, H, G⟩ := F
  exact ⟨c, A, S, N, fun i hi => by rw [q i (S ▸ hi)]; exact H i hi, fun i hi => by rw [q i (S ▸ hi)]; exact G i hi⟩
theorem Aw.nn (F : Aw Z h a ty n f) : ¬ n < 0 := by obtain ⟨c, A, S, N, -⟩ := F; exact N
theorem own_stI (X : Stand p l e R s m args below meth c T locs cells slots) (hx : p.tables.exec = Jvm.exec) (hZ : Z.Warmed39 s.vm) (eT : T.heap = h) (F : Aw Z h a .int n f) {j x : Int32} (hj : ¬ j < 0 ∧ j < n) {g : JFrame} (hg : g.method = m) {rest : List Value} (hs : g.stack = .int x :: .int j :: .ref a :: rest) (hd : decode c.code g.pc = .ok (.iastore, 1)) :
    ∃ T' h', Stand p l e R s m args below meth c T' (locs ++ [⟨a, j.toNatClampNeg⟩]) cells slots ∧ T'.heap = h' ∧ Wr h h' a j.toNatClampNeg (.int x) ∧ Aw Z h' a .int n (upd f j.toNatClampNeg (.int x)) ∧ ∀ target, Steps p.tables e below (T'.setTop { g with pc := g.pc + 1, stack := rest }) target → Steps p.tables e below (T.setTop g) target := by
  obtain ⟨cl, A, S, r⟩ := F
  obtain ⟨T', h', X', e', W, st⟩ := stI X hx hZ eT A (inb_of S hj) hg hs hd
  exact ⟨T', h', X', e', W, Aw.set ⟨cl, A, S, r⟩ W rfl, st⟩
theorem own_stJ (X : Stand p l e R s m args below meth c T locs cells slots) (hx : p.tables.exec = Jvm.exec) (hZ : Z.Warmed39 s.vm) (eT : T.heap = h) (F : Aw Z h a .long n f) {j : Int32} {x : Int64} (hj : ¬ j < 0 ∧ j < n) {g : JFrame} (hg : g.method = m) {rest : List Value} (hs : g.stack = .long x :: .int j :: .ref a :: rest) (hd : decode c.code g.pc = .ok (.lastore, 1)) :
    ∃ T' h', Stand p l e R s m args below meth c T' (locs ++ [⟨a, j.toNatClampNeg⟩]) cells slots ∧ T'.heap = h' ∧ Wr h h' a j.toNatClampNeg (.long x) ∧ Aw Z h' a .long n (upd f j.toNatClampNeg (.long x)) ∧ ∀ target, Steps p.tables e below (T'.setTop { g with pc := g.pc + 1, stack := rest }) target → Steps p.tables e below (T.setTop g) target := by
  obtain ⟨cl, A, S, r⟩ := F
  obtain ⟨T', h', X', e', W, st⟩ := stJ X hx hZ eT A (inb_of S hj) hg hs hd
  exact ⟨T', h', X', e', W, Aw.set ⟨cl, A, S, r⟩ W rfl, st⟩
theorem own_stB (X : Stand p l e R s m args below meth c T locs cells slots) (hx : p.tables.exec = Jvm.exec) (hZ : Z.Warmed39 s.vm) (eT : T.heap = h) (F : Aw Z h a .byte n f) {j x : Int32} (hj : ¬ j < 0 ∧ j < n) {g : JFrame} (hg : g.method = m) {rest : List Value} (hs : g.stack = .int x :: .int j :: .ref a :: rest) (hd : decode c.code g.pc = .ok (.bastore, 1)) :
    ∃ T' h', Stand p l e R s m args below meth c T' (locs ++ [⟨a, j.toNatClampNeg⟩]) cells slots ∧ T'.heap = h' ∧ Wr h h' a j.toNatClampNeg (.int x.toInt8.toInt32) ∧ Aw Z h' a .byte n (upd f j.toNatClampNeg (.int x.toInt8.toInt32)) ∧ ∀ target, Steps p.tables e below (T'.setTop { g with pc := g.pc + 1, stack := rest }) target → Steps p.tables e below (T.setTop g) target := by
  obtain ⟨cl, A, S, r⟩ := F
  obtain ⟨T', h', X', e', W, st⟩ := stB X hx hZ eT A (inb_of S hj) hg hs hd
  exact ⟨T', h', X', e', W, Aw.set ⟨cl, A, S, r⟩ W (fits_nar_byte _), st⟩
theorem own_stC (X : Stand p l e R s m args below meth c T locs cells slots) (hx : p.tables.exec = Jvm.exec) (hZ : Z.Warmed39 s.vm) (eT : T.heap = h) (F : Aw Z h a .char n f) {j x : Int32} (hj : ¬ j < 0 ∧ j < n) {g : JFrame} (hg : g.method = m) {rest : List Value} (hs : g.stack = .int x :: .int j :: .ref a :: rest) (hd : decode c.code g.pc = .ok (.castore, 1)) :
    ∃ T' h', Stand p l e R s m args below meth c T' (locs ++ [⟨a, j.toNatClampNeg⟩]) cells slots ∧ T'.heap = h' ∧ Wr h h' a j.toNatClampNeg (.int (nar .char x)) ∧ Aw Z h' a .char n (upd f j.toNatClampNeg (.int (nar .char x))) ∧ ∀ target, Steps p.tables e below (T'.setTop { g with pc := g.pc + 1, stack := rest }) target → Steps p.tables e below (T.setTop g) target := by
  obtain ⟨cl, A, S, r⟩ := F
  obtain ⟨T', h', X', e', W, st⟩ := stC X hx hZ eT A (inb_of S hj) hg hs hd
  exact ⟨T', h', X', e', W, Aw.set ⟨cl, A, S, r⟩ W (fits_nar_char _), st⟩
theorem Aw.arv {vs : List Value} {d : Value} (F : Aw Z h a ty n f) (q : ∀ j, j < n.toNatClampNeg → f j = vs.getD j d) : ∃ k, Arv Z h a k ty n vs d := by
  obtain ⟨c, A, S, N, H, G⟩ := F
  exact ⟨c.cls, c, A, rfl, S, N, fun i hi => by rw [← q i (S ▸ hi)]; exact H i hi, fun i hi => by rw [← q i (S ▸ hi)]; exact G i hi⟩
theorem Arv.aw {k : ClassId} {vs : List Value} {d : Value} (F : Arv Z h a k ty n vs d) : Aw Z h a ty n (fun j => vs.getD j d) := by
  obtain ⟨c, A, -, S, N, H, G⟩ := F
  exact ⟨c, A, S, N, H, G⟩
theorem own_len (X : Stand p l e R s m args below meth c T locs cells slots) (hx : p.tables.exec = Jvm.exec) (hZ : Z.Warmed39 s.vm) (eT : T.heap = h) (F : Aw Z h a ty n f) {g : JFrame} (hg : g.method = m) {rest : List Value} (hs : g.stack = .ref a :: rest) (hd : decode c.code g.pc = .ok (.arraylength, 1)) (target : State)
    (k : Steps p.tables e below (T.setTop { g with pc := g.pc + 1, stack := .int n :: rest }) target) : Steps p.tables e below (T.setTop g) target := by
  obtain ⟨cl, A, S, N, -⟩ := F
  refine X.arraylength hx (by rw [eT]; exact A.1) (State.isArrayOf_alike hZ.alike A.2.1) hg hs hd _ ?_
  rw [len_of S N]; exact k
theorem own_ldI (X : Stand p l e R s m args below meth c T locs cells slots) (hx : p.tables.exec = Jvm.exec) (hZ : Z.Warmed39 s.vm) (eT : T.heap = h) (F : Aw Z h a .int n f) {j : Int32} (hj : ¬ j < 0 ∧ j < n) (hv : f j.toNatClampNeg = v) {g : JFrame} (hg : g.method = m) {rest : List Value} (hs : g.stack = .int j :: .ref a :: rest) (hd : decode c.code g.pc = .ok (.iaload, 1)) (target : State)
    (k : Steps p.tables e below (T.setTop { g with pc := g.pc + 1, stack := v :: rest }) target) : Steps p.tables e below (T.setTop g) target := by
  obtain ⟨cl, A, S, N, H, -⟩ := F
  have hin := inb_of S hj
  exact X.iaload hx (by rw [eT]; exact A.1) (State.isArrayOf_alike hZ.alike A.2.1) A.2.2 hin (hv ▸ H _ (Nat.lt_of_not_le fun q => hin (Or.inr q))) hg hs hd _ k
theorem own_ldJ (X : Stand p l e R s m args below meth c T locs cells slots) (hx : p.tables.exec = Jvm.exec) (hZ : Z.Warmed39 s.vm) (eT : T.heap = h) (F : Aw Z h a .long n f) {j : Int32} (hj : ¬ j < 0 ∧ j < n) (hv : f j.toNatClampNeg = v) {g : JFrame} (hg : g.method = m) {rest : List Value} (hs : g.stack = .int j :: .ref a :: rest) (hd : decode c.code g.pc = .ok (.laload, 1)) (target : State)
    (k : Steps p.tables e below (T.setTop { g with pc := g.pc + 1, stack := v :: rest }) target) : Steps p.tables e below (T.setTop g) target := by
  obtain ⟨cl, A, S, N, H, -⟩ := F
  have hin := inb_of S hj
  exact X.laload hx (by rw [eT]; exact A.1) (State.isArrayOf_alike hZ.alike A.2.1) A.2.2 hin (hv ▸ H _ (Nat.lt_of_not_le fun q => hin (Or.inr q))) hg hs hd _ k
theorem own_ldB (X : Stand p l e R s m args below meth c T locs cells slots) (hx : p.tables.exec = Jvm.exec) (hZ : Z.Warmed39 s.vm) (eT : T.heap = h) (F : Aw Z h a .byte n f) {j : Int32} (hj : ¬ j < 0 ∧ j < n) (hv : f j.toNatClampNeg = v) {g : JFrame} (hg : g.method = m) {rest : List Value} (hs : g.stack = .int j :: .ref a :: rest) (hd : decode c.code g.pc = .ok (.baload, 1)) (target : State)
    (k : Steps p.tables e below (T.setTop { g with pc := g.pc + 1, stack := v :: rest }) target) : Steps p.tables e below (T.setTop g) target := by
  obtain ⟨cl, A, S, N, H, -⟩ := F
  have hin := inb_of S hj
  exact X.baloadBytes hx (by rw [eT]; exact A.1) (State.isArrayOf_alike hZ.alike A.2.1) A.2.2 hin (hv ▸ H _ (Nat.lt_of_not_le fun q => hin (Or.inr q))) hg hs hd _ k
end OwnArr
def own_EL : List (String × Nat) := [("java/lang/String", 7)]
theorem own_EW {Z : State} {a0 : Array Value} (hw : ∀ d ∈ tables_1, d.before a0 Z = true) : EW Z a0 own_EL := EW.cons (text := "") (hw _ (List.mem_of_getElem? (i := 18) rfl)) (by decide) EW.nil
theorem own_wS {Z : State} {a0 : Array Value} (hw : ∀ d ∈ tables_1, d.before a0 Z = true) : ∀ a ∈ Bundle.stringAtoms, a.before a0 Z = true := fun d hd => by
  simp only [Bundle.stringAtoms, List.mem_cons, List.not_mem_nil, or_false] at hd
  rcases hd with rfl | rfl | rfl | rfl | rfl | rfl | rfl
  · exact (hw _ (List.mem_of_getElem? (i := 6) rfl))
  · exact (hw _ (List.mem_of_getElem? (i := 5) rfl))
  · exact (hw _ (List.mem_of_getElem? (i := 19) rfl))
  · exact (hw _ (List.mem_of_getElem? (i := 20) rfl))
  · exact (hw _ (List.mem_of_getElem? (i := 21) rfl))
  · exact (hw _ (List.mem_of_getElem? (i := 22) rfl))
  · exact (hw _ (List.mem_of_getElem? (i := 23) rfl))
theorem own_ws {Z : State} {a0 : Array Value} (hw : ∀ d ∈ tables_1, d.before a0 Z = true) : ∀ d ∈ StrChars.Road.words, d.before a0 Z = true := fun d hd => hw d ((by decide +kernel : ∀ d ∈ StrChars.Road.words, d ∈ tables_1) d hd)
theorem own_weq {Z : State} {a0 : Array Value} (hw : ∀ d ∈ tables_1, d.before a0 Z = true) : ∀ d ∈ StrChars.Road.wordsEq, d.before a0 Z = true := fun d hd => hw d ((by decide +kernel : ∀ d ∈ StrChars.Road.wordsEq, d ∈ tables_1) d hd)
/-- a char below 256 -/
def own_ch (x : Int32) : Prop := ∃ i, i ≤ 255 ∧ x = Int32.ofNat i
theorem own_ch_rng {x : Int32} (h : own_ch x) : ¬ x < 0 ∧ ¬ (255 : Int32) < x := by
  obtain ⟨i, hi, rfl⟩ := h
  have t : ∀ k : Fin 256, ¬ (Int32.ofNat k.val) < 0 ∧ ¬ (255 : Int32) < Int32.ofNat k.val := by decide +kernel
  exact t ⟨i, by omega⟩
theorem own_ch_nar {x : Int32} (h : own_ch x) : nar .char x = x := by
  obtain ⟨i, hi, rfl⟩ := h
  have t : ∀ k : Fin 256, nar .char (Int32.ofNat k.val) = Int32.ofNat k.val := by decide +kernel
  exact t ⟨i, by omega⟩
theorem own_ch_i2c (x : Int32) : own_ch ((x &&& (255 : Int32)).toUInt32.toUInt16.toUInt32.toInt32) := by
  obtain ⟨i, hi, e⟩ : ∃ i, i ≤ 255 ∧ x &&& (255 : Int32) = Int32.ofNat i := own_andk x (k := 255) (by decide)
  have t : ∀ k : Fin 256, (Int32.ofNat k.val).toUInt32.toUInt16.toUInt32.toInt32 = Int32.ofNat k.val := by decide +kernel
  exact ⟨i, hi, by rw [e]; exact t ⟨i, by omega⟩⟩
theorem own_up {cs : List Int32} (h : ∀ c ∈ cs, own_ch c) : (∀ c ∈ cs, ¬ c < 0 ∧ ¬ (255 : Int32) < c) ∧ ∀ c ∈ cs, ¬ c < 0 ∧ ¬ (65535 : Int32) < c :=
  ⟨fun c hc => own_ch_rng (h c hc), fun c hc => ⟨(own_ch_rng (h c hc)).1, fun q => (own_ch_rng (h c hc)).2 (by rw [Int32.lt_iff_toInt_lt] at q ⊢; have e1 : (65535 : Int32).toInt = 65535 := rfl; have e2 : (255 : Int32).toInt = 255 := rfl; omega)⟩⟩
/-- a String of the chars cs, at x in h -/
def StrIs (Z : State) (h : Heap) (x : Addr) (cs : List Int32) : Prop := ∃ (t : Addr) (kb : ClassId) (N : Int32) (vs : List Value), Exa Z h x "java/lang/String" ∧ Fld Z h x "java/lang/String" "coder" "B" (.int 0) ∧ Fld Z h x "java/lang/String" "value" "[B" (.ref t) ∧ Arv Z h t kb .byte N vs (.int 0) ∧ StrChars.Road.CodA cs 0 N vs ∧ (∀ c ∈ cs, ¬ c < 0 ∧ ¬ (65535 : Int32) < c) ∧ cs.length ≤ 4000
def own_cs (p x y : Int32) : List Int32 := if p = 0 then [] else if p = 1 then [x] else [x, y]
theorem own_cod {cs : List Int32} {n : Nat} (hn : cs.length = n) (h : ∀ c ∈ cs, ¬ (255 : Int32) < c) : StrChars.Road.CodA cs 0 (Int32.ofNat n) ((cs.map fun c => c.toInt8.toInt32).map Value.int) := by
  subst hn
  exact Or.inl ⟨rfl, rfl, by rw [List.map_map]; rfl, h⟩
theorem own_cod0 : StrChars.Road.CodA [] 0 0 [] := Or.inl ⟨rfl, rfl, rfl, fun _ q => nomatch q⟩
theorem own_safe {Z : State} {EL : List (String × Nat)} {vm : Vm} {h : Heap} {x : Addr} (hal : Z.vm.Alike vm) (E : Exa Z h x "java/lang/String") (V : Fld Z h x "java/lang/String" "value" "[B" .null) : Safe Z EL vm h x := fun B => by
  obtain ⟨cell, k, e1, e2, e3, -, -⟩ := E
  obtain ⟨cell', cf, k', i, f, v1, v2, -, -, -, -, v7⟩ := V
  cases v1.symm.trans e1
  obtain ⟨p, -, u, a, -, q, -, F, rfl | rfl⟩ := B
  · cases (show h[q.sa]? = some q.sC from F.ha).symm.trans e1
    obtain ⟨cS, ⟨⟨-, -, -, ⟨c1, k1, i1, f1, -⟩, -, -, -, w1, -⟩, -⟩, -⟩ := F
    obtain ⟨kv', z4⟩ := ff_back (U := Wst Z vm h) hal f1
    have z5 := z4.symm.trans v2
    simp only [Option.some.injEq, Prod.mk.injEq] at z5
    rw [z5.2.2.2] at w1
    rw [w1] at v7
    cases v7
  · cases (show h[q.sd]? = some q.SA from F.hd).symm.trans e1
    obtain ⟨cS, -, -, fB, -⟩ := F
    have fB : vm.findClass "[B" = some q.SA.cls := fB
    rw [hal.findClass] at fB
    obtain ⟨k1, q1, q2⟩ := Vm.findClass_spec fB
    obtain ⟨k2, q3, q4⟩ := Vm.findClass_spec e2
    cases q1.symm.trans q3
    have := q2.symm.trans q4
    exact absurd this (by decide)
theorem own_f1 (x : Int32) : ∀ j, j < (1 : Int32).toNatClampNeg → upd (fun _ => defaultValue .char) ((0 : Int32)).toNatClampNeg (.int x) j = ([x].map Value.int).getD j (.int 0) := fun j hj => by
  have hj : j < 1 := hj
  obtain rfl : j = 0 := by omega
  rfl
theorem own_f2 (x y : Int32) : ∀ j, j < (2 : Int32).toNatClampNeg → upd (upd (fun _ => defaultValue .char) ((0 : Int32)).toNatClampNeg (.int x)) ((1 : Int32)).toNatClampNeg (.int y) j = ([x, y].map Value.int).getD j (.int 0) := fun j hj => by
  have hj : j < 2 := hj
  obtain rfl | rfl : j = 0 ∨ j = 1 := by omega
  · rfl
  · rfl
theorem own_one {x : Int32} (hx : own_ch x) : ∀ c ∈ [x], own_ch c := fun c hc => by
  cases List.mem_singleton.mp hc; exact hx
theorem own_two {x y : Int32} (hx : own_ch x) (hy : own_ch y) : ∀ c ∈ [x, y], own_ch c := fun c hc => by
  rcases List.mem_cons.mp hc with rfl | hc
  · exact hx
  · exact own_one hy c hc
theorem own_rem3 (x : Int32) : (x &&& (3 : Int32)) % 3 = 0 ∨ (x &&& (3 : Int32)) % 3 = 1 ∨ (x &&& (3 : Int32)) % 3 = 2 := by
  obtain ⟨i, hi, e⟩ : ∃ i, i ≤ 3 ∧ x &&& (3 : Int32) = Int32.ofNat i := own_andk x (k := 3) (by decide)
  rw [e]
  have t : ∀ k : Fin 4, (Int32.ofNat k.val) % 3 = 0 ∨ (Int32.ofNat k.val) % 3 = 1 ∨ (Int32.ofNat k.val) % 3 = 2 := by decide +kernel
  exact t ⟨i, by omega⟩
def own_t (x : Int32) : Prop := x = 0 ∨ x = 1 ∨ x = 2
section OwnSame
variable {la lb a b x y : Int32}
theorem own_s1 (ha : own_t la) (hb : own_t lb) (h : ¬ la = lb) : ¬ own_cs la a x = own_cs lb b y := by
  rcases ha with rfl | rfl | rfl <;> rcases hb with rfl | rfl | rfl <;> first | exact absurd rfl h | (simp [own_cs])
theorem own_s2 (ha : own_t la) (h : la = lb) (h1 : ¬ la < 1) (h2 : ¬ a = b) : ¬ own_cs la a x = own_cs lb b y := by
  subst h
  rcases ha with rfl | rfl | rfl <;> first | exact absurd (by decide) h1 | (simp [own_cs, h2])
theorem own_s3 (ha : own_t la) (h : la = lb) (h1 : ¬ la < 2) (h2 : ¬ x = y) : ¬ own_cs la a x = own_cs lb b y := by
  subst h
  rcases ha with rfl | rfl | rfl <;> first | exact absurd (by decide) h1 | (simp [own_cs, h2])
theorem own_s4 (ha : own_t la) (h : la = lb) (h1 : la < 1 ∨ a = b) (h2 : la < 2 ∨ x = y) : own_cs la a x = own_cs lb b y := by
  subst h
  rcases ha with rfl | rfl | rfl
  · rfl
  · rcases h1 with h1 | rfl
    · exact absurd h1 (by decide)
    · rfl
  · rcases h1 with h1 | rfl
    · exact absurd h1 (by decide)
    · rcases h2 with h2 | rfl
      · exact absurd h2 (by decide)
      · rfl
end OwnSame
def own_b (P : Prop) [Decidable P] : Int32 := if P then 1 else 0
theorem own_b1 {P : Prop} [Decidable P] (h : P) : own_b P = 1 := if_pos h
theorem own_b0 {P : Prop} [Decidable P] (h : ¬ P) : own_b P = 0 := if_neg h
theorem own_bc {P Q : Prop} [Decidable P] [Decidable Q] (h : P ↔ Q) : own_b P = own_b Q := by
  by_cases hp : P
  · rw [own_b1 hp, own_b1 (h.mp hp)]
  · rw [own_b0 hp, own_b0 (fun q => hp (h.mpr q))]
theorem own_no {Z : State} {a0 : Array Value} (hw : ∀ d ∈ tables_1, d.before a0 Z = true) : ∃ c t, Z.vm.findClass "java/lang/String" = some c ∧ Z.vm.findClass "com/example/offerloom/offerloom/book/PriceGroup" = some t ∧ Z.vm.assignable c t = false := by
  have w : (Cond.superclass "java/lang/String" "java/lang/Object").before a0 Z = true := (hw _ (List.mem_of_getElem? (i := 65) rfl))
  have wo : (Cond.noSuperclass "java/lang/Object").before a0 Z = true := (hw _ (List.mem_of_getElem? (i := 66) rfl))
  have wi : (Cond.instantiable "com/example/offerloom/offerloom/book/PriceGroup" 2).before a0 Z = true := (hw _ (List.mem_of_getElem? (i := 27) rfl))
  obtain ⟨t, k', g0, g2, g5, g7, -⟩ := Cond.instantiable_spec wi
  obtain ⟨c, h0⟩ := found_sup w
  obtain ⟨q, k, kp, h1, h2, h3, h4, h5, -, h7⟩ := Cond.superclass_spec h0 w
  obtain ⟨c', ko, f1, f2, f3, -, -⟩ := Cond.noSuperclass_spec wo
  cases f1.symm.trans h1
  have ne := ids_ne h0 g0 (by decide)
  have ne' := ids_ne f1 g0 (by decide)
  have g8 : k'.isInterface = false := by
    simp only [Bool.or_eq_false_iff] at g7; exact g7.1
  refine ⟨c, t, h0, g0, ?_⟩
  show Z.vm.assignableAux (255 + 1) c t = false
  have hs : ∀ fuel, Z.vm.isSubclassAux fuel c t = false := fun fuel => by
    cases fuel with
    | zero => rfl
    | succ f =>
      cases f with
      | zero => simp [Vm.isSubclassAux, ne, h2, h4]
      | succ f => simp [Vm.isSubclassAux, ne, ne', h2, h4, f2, f3]
  simp [Vm.assignableAux, ne, h2, g2, h5, g5, g8, Vm.isSubclass, hs]

theorem d3_0 : decode jdk_42_method_149_code 0 = .ok (.aload_n 0, 1) := by decide +kernel
theorem d3_1 : decode jdk_42_method_149_code 1 = .ok (.invokespecial 1, 3) := by decide +kernel
theorem d3_4 : decode jdk_42_method_149_code 4 = .ok (.iload_n 3, 1) := by decide +kernel
theorem d3_5 : decode jdk_42_method_149_code 5 = .ok (.ifCond .ne 22, 3) := by decide +kernel
theorem d3_8 : decode jdk_42_method_149_code 8 = .ok (.aload_n 0, 1) := by decide +kernel
theorem d3_9 : decode jdk_42_method_149_code 9 = .ok (.ldc 7, 2) := by decide +kernel
theorem d3_11 : decode jdk_42_method_149_code 11 = .ok (.getfield 9, 3) := by decide +kernel
theorem d3_14 : decode jdk_42_method_149_code 14 = .ok (.putfield 9, 3) := by decide +kernel
theorem d3_17 : decode jdk_42_method_149_code 17 = .ok (.aload_n 0, 1) := by decide +kernel
theorem d3_18 : decode jdk_42_method_149_code 18 = .ok (.ldc 7, 2) := by decide +kernel
theorem d3_20 : decode jdk_42_method_149_code 20 = .ok (.getfield 15, 3) := by decide +kernel
theorem d3_23 : decode jdk_42_method_149_code 23 = .ok (.putfield 15, 3) := by decide +kernel
theorem d3_26 : decode jdk_42_method_149_code 26 = .ok (.return_, 1) := by decide +kernel
theorem d3_27 : decode jdk_42_method_149_code 27 = .ok (.getstatic 38, 3) := by decide +kernel
theorem d3_30 : decode jdk_42_method_149_code 30 = .ok (.ifCond .eq 28, 3) := by decide +kernel
theorem d3_33 : decode jdk_42_method_149_code 33 = .ok (.aload_n 1, 1) := by decide +kernel
theorem d3_34 : decode jdk_42_method_149_code 34 = .ok (.iload_n 2, 1) := by decide +kernel
theorem d3_35 : decode jdk_42_method_149_code 35 = .ok (.iload_n 3, 1) := by decide +kernel
theorem d3_36 : decode jdk_42_method_149_code 36 = .ok (.invokestatic 177, 3) := by decide +kernel
theorem d3_39 : decode jdk_42_method_149_code 39 = .ok (.astore 5, 2) := by decide +kernel
theorem d3_41 : decode jdk_42_method_149_code 41 = .ok (.aload_n 0, 1) := by decide +kernel
theorem d3_42 : decode jdk_42_method_149_code 42 = .ok (.aload 5, 2) := by decide +kernel
theorem d3_44 : decode jdk_42_method_149_code 44 = .ok (.iload_n 3, 1) := by decide +kernel
theorem d3_45 : decode jdk_42_method_149_code 45 = .ok (.invokestatic 47, 3) := by decide +kernel
theorem d3_48 : decode jdk_42_method_149_code 48 = .ok (.putfield 15, 3) := by decide +kernel
theorem d3_51 : decode jdk_42_method_149_code 51 = .ok (.aload_n 0, 1) := by decide +kernel
theorem d3_52 : decode jdk_42_method_149_code 52 = .ok (.aload 5, 2) := by decide +kernel
theorem d3_54 : decode jdk_42_method_149_code 54 = .ok (.putfield 9, 3) := by decide +kernel
theorem d3_57 : decode jdk_42_method_149_code 57 = .ok (.return_, 1) := by decide +kernel
theorem d3_58 : decode jdk_42_method_149_code 58 = .ok (.aload_n 0, 1) := by decide +kernel
theorem d3_59 : decode jdk_42_method_149_code 59 = .ok (.iconst 1, 1) := by decide +kernel
theorem d3_60 : decode jdk_42_method_149_code 60 = .ok (.putfield 15, 3) := by decide +kernel
theorem d3_63 : decode jdk_42_method_149_code 63 = .ok (.aload_n 0, 1) := by decide +kernel
theorem d3_64 : decode jdk_42_method_149_code 64 = .ok (.aload_n 1, 1) := by decide +kernel
theorem d3_65 : decode jdk_42_method_149_code 65 = .ok (.iload_n 2, 1) := by decide +kernel
theorem d3_66 : decode jdk_42_method_149_code 66 = .ok (.iload_n 3, 1) := by decide +kernel
theorem d3_67 : decode jdk_42_method_149_code 67 = .ok (.invokestatic 180, 3) := by decide +kernel
theorem d3_70 : decode jdk_42_method_149_code 70 = .ok (.putfield 9, 3) := by decide +kernel
theorem d3_73 : decode jdk_42_method_149_code 73 = .ok (.return_, 1) := by decide +kernel
theorem pn_3 : plainName "java/lang/String" = true := by first | (simp [plainName, overriddenIn]; done) | decide +kernel
theorem ef_3 (m : MethodId) (a1 : Addr) (a2 : Addr) (p1 : Int32) (p2 : Int32) : entryFrame m #[(.ref a1), (.ref a2), (.int p1), (.int p2), .null] 6 = mkF m 0 #[.val (.ref a1), .val (.ref a2), .val (.int p1), .val (.int p2), .val .null, .unset] [] := by first | (simp [entryFrame, mkF, argsToLocals, Value.category]; done) | rfl
def Q3 (Z : State) (a1 : Addr) (a2 : Addr) (p1 : Int32) (p2 : Int32) (h0 : Heap) (n0 : Nat) (v : Option Value) (h : Heap) (L : List Loc) : Prop := v = none ∧ Fr n0 L ∧ Keep h0 h [a1] ∧ Fld Z h a1 "java/lang/String" "coder" "B" (.int 0) ∧ ∃ t kb, Fld Z h a1 "java/lang/String" "value" "[B" (.ref t) ∧ Arv Z h t kb .byte 0 [] (.int 0)
set_option maxRecDepth 65536 in
set_option maxHeartbeats 40000000 in
theorem rm3 (l : Launch) (Z : State) (a0 : Array Value) (hw : ∀ d ∈ tables_1, d.before a0 Z = true) (ws : List Jvm.Cond) (a1 : Addr) (a2 : Addr) (p1 : Int32) (p2 : Int32) (h0 : Heap) (n0 : Nat) (Z0 : n0 ≤ h0.size) (g_a1 : n0 ≤ a1) (E1 : Exa Z h0 a1 "java/lang/String") (V1 : Fld Z h0 a1 "java/lang/String" "value" "[B" .null) (C1 : Fld Z h0 a1 "java/lang/String" "coder" "B" (.int (0 : Int32))) (hp2 : p2 = 0) :
    MetFree l (⟨"java/lang/String", "<init>", "([CIILjava/lang/Void;)V"⟩ : MethodName) (head1 (Jvm.Cond.code (⟨"java/lang/String", "<init>", "([CIILjava/lang/Void;)V"⟩ : MethodName) jdk_42_method_149_code 6 none :: ws) ({ frames := 1, cells := 4, slots := 8, locals := 12 } : Room)) (fun a U => a = #[(.ref a1), (.ref a2), (.int p1), (.int p2), .null] ∧ Z.Warmed39 U.vm ∧ U.heap = h0 ∧ CHv Z own_EL U.vm h0) (fun _ _ _ _ _ => True) (fun _ U o U' => ∃ v L, o = .returned v ∧ Q3 Z a1 a2 p1 p2 h0 n0 v U'.heap L ∧ CHr Z own_EL U.vm U.heap U'.vm U'.heap ∧ ReturnedEndW U o U' L ({ frames := 1, cells := 4, slots := 8, locals := 12 } : Room).cells ({ frames := 1, cells := 4, slots := 8, locals := 12 } : Room).slots) := by
  refine MetFree.of_bodySF (plainFor_of_name pn_3) hisR ?_
  intro p e s m args below meth c s₁ Bd hml0 hP hK
  obtain ⟨rfl, hZ, hh, hch⟩ := hP
  have hx := Bd.exec
  have hby := Bd.bytes
  have hlk := Bd.notSynchronized
  have hml : c.maxLocals = 6 := hml0
  have hown : s.vm.findClass "java/lang/String" = some m.cls := findClass_of_methodNamed Bd.named
  have hnm := (name_of_methodNamed Bd.named Bd.method).1
  have X0 : Stand p l e ({ frames := 1, cells := 4, slots := 8, locals := 12 } : Room) (s.setVm s.vm) m #[(.ref a1), (.ref a2), (.int p1), (.int p2), .null] below meth c s₁ [] 0 0 := Stand.of_body Bd
  have hS0 : s.Since s.vm s.heap.size := (State.WarmedH.refl s).since _
  have hk0 : s.heap.size ≤ h0.size := Nat.le_of_eq (by rw [hh])
  have hEL := own_EW hw
  have CH0 : CHr Z own_EL s.vm h0 s.vm h0 := CHr.refl hch
  have e0 : s₁.heap = h0 := by rw [← hh, Bd.state]; rfl
  have N0 := Fr.nil n0
  show Goes p e below s (EndH Z own_EL) 4 8 (Q3 Z a1 a2 p1 p2 h0 n0) s₁ (entryFrame m #[(.ref a1), (.ref a2), (.int p1), (.int p2), .null] 6)
  refine goEq (ef_3 m a1 a2 p1 p2) ?_
  have sf0_a1 : Safe Z own_EL s.vm h0 a1 := own_safe hZ.alike E1 V1
  refine go (T' := s₁) (g' := (mkF m 1 #[.val (.ref a1), .val (.ref a2), .val (.int p1), .val (.int p2), .val .null, .unset] [(.ref a1)])) (fun t kt => XS.aloadN X0.here hx rfl (hb hby d3_0) rfl rfl kt) ?_
  obtain ⟨T1001, X1001, e1001, st1001⟩ := initO X0 hx hZ hown (hw _ (List.mem_of_getElem? (i := 15) rfl)) (hw _ (List.mem_of_getElem? (i := 16) rfl)) (hw _ (List.mem_of_getElem? (i := 17) rfl)) e0 (g := (mkF m 1 #[.val (.ref a1), .val (.ref a2), .val (.int p1), .val (.int p2), .val .null, .unset] [(.ref a1)])) rfl (by rw [hml]; rfl) rfl (hb hby d3_1) (by decide) (W := 0) (by show 2 * 0 + _ ≤ _; exact Nat.le_of_eq rfl) (by decide)
  refine go (T' := T1001) (g' := (mkF m 4 #[.val (.ref a1), .val (.ref a2), .val (.int p1), .val (.int p2), .val .null, .unset] [])) st1001 ?_
  refine go (T' := T1001) (g' := (mkF m 5 #[.val (.ref a1), .val (.ref a2), .val (.int p1), .val (.int p2), .val .null, .unset] [(.int p2)])) (fun t kt => XS.iloadN X1001.here hx rfl (hb hby d3_4) rfl kt) ?_
  refine go (T' := T1001) (g' := (mkF m 8 #[.val (.ref a1), .val (.ref a2), .val (.int p1), .val (.int p2), .val .null, .unset] [])) (fun t kt => XS.ifNo X1001.here hx rfl (hb hby d3_5) rfl ((if0 _ _).trans (teq hp2).2) kt) ?_
  refine go (T' := T1001) (g' := (mkF m 9 #[.val (.ref a1), .val (.ref a2), .val (.int p1), .val (.int p2), .val .null, .unset] [(.ref a1)])) (fun t kt => XS.aloadN X1001.here hx rfl (hb hby d3_8) rfl rfl kt) ?_
  obtain ⟨x1, T1002, h1002, k1002, t1, kc1002, X1002, e1002, E1002, hS1002, hk1002, hZ1002, hown1002, Ea1002, Fc1002, Fv1002, Av1002, -, -, Cn1002, -, hne1002, st1002⟩ := ldcCH X1001 hx hZ hown (hw _ (List.mem_of_getElem? (i := 18) rfl)) (own_wS hw) e1001 hS0 hk0 hEL (List.mem_of_getElem? (i := 0) rfl) (own_inv CH0) (vs := []) (z := 0) ⟨(by decide), rfl⟩ (by decide) (by decide) (g := (mkF m 9 #[.val (.ref a1), .val (.ref a2), .val (.int p1), .val (.int p2), .val .null, .unset] [(.ref a1)])) rfl (hb hby d3_9) (n := 0) (by decide) (by decide) (by decide) (by decide)
  have z1002 : n0 ≤ h1002.size := Nat.le_trans Z0 E1002.1
  have C1002 : CHr Z own_EL s.vm h0 T1002.vm h1002 := CHr.trans CH0 Cn1002
  have sf1002_a1 : Safe Z own_EL T1002.vm h1002 a1 := Cn1002.safe E1.lt sf0_a1
  have fE_a1_1002 : Exa Z h1002 a1 "java/lang/String" := E1.ext E1002
  have fF_a1_value_1002 : Fld Z h1002 a1 "java/lang/String" "value" "[B" .null := V1.ext E1002
  have fF_a1_coder_1002 : Fld Z h1002 a1 "java/lang/String" "coder" "B" (.int (0 : Int32)) := C1.ext E1002
  have K1002 : Keep h0 h1002 [a1] := (Keep.refl h0 [a1]).ext E1002
  have ne1002_a1 := hne1002 a1 sf1002_a1
  refine go (T' := T1002) (g' := (mkF m 11 #[.val (.ref a1), .val (.ref a2), .val (.int p1), .val (.int p2), .val .null, .unset] [(.ref x1), (.ref a1)])) st1002 ?_
  obtain ⟨T1003, X1003, e1003, st1003⟩ := getF X1002 hx hZ1002 hown1002 (host := "") (Or.inl (hw _ (List.mem_of_getElem? (i := 24) rfl))) Via.refl e1002 Fv1002 (g := (mkF m 11 #[.val (.ref a1), .val (.ref a2), .val (.int p1), .val (.int p2), .val .null, .unset] [(.ref x1), (.ref a1)])) rfl rfl (hb hby d3_11)
  refine go (T' := T1003) (g' := (mkF m 14 #[.val (.ref a1), .val (.ref a2), .val (.int p1), .val (.int p2), .val .null, .unset] [(.ref t1), (.ref a1)])) st1003 ?_
  obtain ⟨T1004, h1004, X1004, e1004, W1004, st1004⟩ := putF X1003 hx hZ1002 hown1002 (host := "") (Or.inl (hw _ (List.mem_of_getElem? (i := 24) rfl))) Via.refl e1003 fF_a1_value_1002 fE_a1_1002 (Or.inr ⟨(hw _ (List.mem_of_getElem? (i := 20) rfl)), rfl, hnm⟩) (hw _ (List.mem_of_getElem? (i := 5) rfl)) (ty := (.array .byte)) (by decide) rfl rfl (g := (mkF m 14 #[.val (.ref a1), .val (.ref a2), .val (.int p1), .val (.int p2), .val .null, .unset] [(.ref t1), (.ref a1)])) rfl rfl (hb hby d3_14)
  have z1004 : n0 ≤ h1004.size := Nat.le_trans z1002 (Keep.of_wr W1004).1
  have y1004 : k1002 ≤ h1004.size := Nat.le_trans hk1002 (Keep.of_wr W1004).1
  have C1004 : CHr Z own_EL s.vm h0 T1002.vm h1004 := CHr.trans C1002 (CHr.wr W1004 sf1002_a1 (own_inv C1002))
  have sf1004_a1 : Safe Z own_EL T1002.vm h1004 a1 := Safe.wr W1004 sf1002_a1 (own_inv C1002) sf1002_a1
  have fE_a1_1004 : Exa Z h1004 a1 "java/lang/String" := fE_a1_1002.wr W1004
  have fF_a1_coder_1004 : Fld Z h1004 a1 "java/lang/String" "coder" "B" (.int (0 : Int32)) := fF_a1_coder_1002.other W1004 (Or.inr (slot_ne (Or.inr (hw _ (List.mem_of_getElem? (i := 21) rfl))) (Or.inr (hw _ (List.mem_of_getElem? (i := 20) rfl))) (by decide) (t := .byte) (t' := (.array .byte)) (by decide) (by decide)))
  have fA_t1_1004 : Arv Z h1004 t1 kc1002 .byte 0 [] (.int 0) := Av1002.other W1004 (Ne.symm ne1002_a1.2)
  have Fw1004 : Fld Z h1004 a1 "java/lang/String" "value" "[B" (.ref t1) := fF_a1_value_1002.same W1004
  have K1004 : Keep h0 h1004 [a1] := K1002.wr W1004 (Or.inl (List.mem_of_getElem? (i := 0) rfl))
  have N1004 := Fr.snoc X1004 N0 g_a1
  refine go (T' := T1004) (g' := (mkF m 17 #[.val (.ref a1), .val (.ref a2), .val (.int p1), .val (.int p2), .val .null, .unset] [])) st1004 ?_
  refine go (T' := T1004) (g' := (mkF m 18 #[.val (.ref a1), .val (.ref a2), .val (.int p1), .val (.int p2), .val .null, .unset] [(.ref a1)])) (fun t kt => XS.aloadN X1004.here hx rfl (hb hby d3_17) rfl rfl kt) ?_
  obtain ⟨x2, T1005, h1005, k1005, t2, kc1005, X1005, e1005, E1005, hS1005, hk1005, hZ1005, hown1005, Ea1005, Fc1005, Fv1005, Av1005, -, -, Cn1005, -, hne1005, st1005⟩ := ldcCH X1004 hx hZ1002 hown1002 (hw _ (List.mem_of_getElem? (i := 18) rfl)) (own_wS hw) e1004 hS1002 y1004 hEL (List.mem_of_getElem? (i := 0) rfl) (own_inv C1004) (vs := []) (z := 0) ⟨(by decide), rfl⟩ (by decide) (by decide) (g := (mkF m 18 #[.val (.ref a1), .val (.ref a2), .val (.int p1), .val (.int p2), .val .null, .unset] [(.ref a1)])) rfl (hb hby d3_18) (n := 0) (by decide) (by decide) (by decide) (by decide)
  have z1005 : n0 ≤ h1005.size := Nat.le_trans z1004 E1005.1
  have C1005 : CHr Z own_EL s.vm h0 T1005.vm h1005 := CHr.trans C1004 Cn1005
  have sf1005_a1 : Safe Z own_EL T1005.vm h1005 a1 := Cn1005.safe fE_a1_1004.lt sf1004_a1
  have fE_a1_1005 : Exa Z h1005 a1 "java/lang/String" := fE_a1_1004.ext E1005
  have fF_a1_value_1005 : Fld Z h1005 a1 "java/lang/String" "value" "[B" (.ref t1) := Fw1004.ext E1005
  have fF_a1_coder_1005 : Fld Z h1005 a1 "java/lang/String" "coder" "B" (.int (0 : Int32)) := fF_a1_coder_1004.ext E1005
  have fA_t1_1005 : Arv Z h1005 t1 kc1002 .byte 0 [] (.int 0) := fA_t1_1004.ext E1005
  have K1005 : Keep h0 h1005 [a1] := K1004.ext E1005
  have ne1005_a1 := hne1005 a1 sf1005_a1
  refine go (T' := T1005) (g' := (mkF m 20 #[.val (.ref a1), .val (.ref a2), .val (.int p1), .val (.int p2), .val .null, .unset] [(.ref x2), (.ref a1)])) st1005 ?_
  obtain ⟨T1006, X1006, e1006, st1006⟩ := getF X1005 hx hZ1005 hown1005 (host := "") (Or.inl (hw _ (List.mem_of_getElem? (i := 25) rfl))) Via.refl e1005 Fc1005 (g := (mkF m 20 #[.val (.ref a1), .val (.ref a2), .val (.int p1), .val (.int p2), .val .null, .unset] [(.ref x2), (.ref a1)])) rfl rfl (hb hby d3_20)
  refine go (T' := T1006) (g' := (mkF m 23 #[.val (.ref a1), .val (.ref a2), .val (.int p1), .val (.int p2), .val .null, .unset] [(.int 0), (.ref a1)])) st1006 ?_
  obtain ⟨T1007, h1007, X1007, e1007, W1007, st1007⟩ := putFN X1006 hx hZ1005 hown1005 (hw _ (List.mem_of_getElem? (i := 25) rfl)) Via.refl e1006 fF_a1_coder_1005 fE_a1_1005 (Or.inr ⟨(hw _ (List.mem_of_getElem? (i := 21) rfl)), rfl, hnm⟩) (hw _ (List.mem_of_getElem? (i := 5) rfl)) (ty := .byte) (v' := (.int (nar .byte 0))) (by decide) rfl (fits_nar_byte _) (g := (mkF m 23 #[.val (.ref a1), .val (.ref a2), .val (.int p1), .val (.int p2), .val .null, .unset] [(.int 0), (.ref a1)])) rfl rfl (hb hby d3_23)
  have z1007 : n0 ≤ h1007.size := Nat.le_trans z1005 (Keep.of_wr W1007).1
  have y1007 : k1005 ≤ h1007.size := Nat.le_trans hk1005 (Keep.of_wr W1007).1
  have C1007 : CHr Z own_EL s.vm h0 T1005.vm h1007 := CHr.trans C1005 (CHr.wr W1007 sf1005_a1 (own_inv C1005))
  have sf1007_a1 : Safe Z own_EL T1005.vm h1007 a1 := Safe.wr W1007 sf1005_a1 (own_inv C1005) sf1005_a1
  have fE_a1_1007 : Exa Z h1007 a1 "java/lang/String" := fE_a1_1005.wr W1007
  have fF_a1_value_1007 : Fld Z h1007 a1 "java/lang/String" "value" "[B" (.ref t1) := fF_a1_value_1005.other W1007 (Or.inr (slot_ne (Or.inr (hw _ (List.mem_of_getElem? (i := 20) rfl))) (Or.inr (hw _ (List.mem_of_getElem? (i := 21) rfl))) (by decide) (t := (.array .byte)) (t' := .byte) (by decide) (by decide)))
  have fA_t1_1007 : Arv Z h1007 t1 kc1002 .byte 0 [] (.int 0) := fA_t1_1005.other W1007 (Ne.symm ne1002_a1.2)
  have Fw1007 : Fld Z h1007 a1 "java/lang/String" "coder" "B" (.int (nar .byte 0)) := fF_a1_coder_1005.same W1007
  have K1007 : Keep h0 h1007 [a1] := K1005.wr W1007 (Or.inl (List.mem_of_getElem? (i := 0) rfl))
  have N1007 := Fr.snoc X1007 N1004 g_a1
  refine go (T' := T1007) (g' := (mkF m 26 #[.val (.ref a1), .val (.ref a2), .val (.int p1), .val (.int p2), .val .null, .unset] [])) st1007 ?_
  refine goRetVH X1007 hx hlk hS1005 (by rw [e1007]; exact y1007) (by rw [e1007, hh]; exact (CHr.trans C1007 (CHv.at X1007 hZ1005 hEL (own_inv C1007)))) Bd.returns (hb hby d3_26) ?_ (by decide) (by decide)
  rw [e1007]
  exact ⟨rfl, N1007, K1007, Fw1007, _, _, fF_a1_value_1007, fA_t1_1007⟩
theorem d2_0 : decode jdk_42_method_3_code 0 = .ok (.aload_n 0, 1) := by decide +kernel
theorem d2_1 : decode jdk_42_method_3_code 1 = .ok (.aload_n 1, 1) := by decide +kernel
theorem d2_2 : decode jdk_42_method_3_code 2 = .ok (.iconst 0, 1) := by decide +kernel
theorem d2_3 : decode jdk_42_method_3_code 3 = .ok (.aload_n 1, 1) := by decide +kernel
theorem d2_4 : decode jdk_42_method_3_code 4 = .ok (.arraylength, 1) := by decide +kernel
theorem d2_5 : decode jdk_42_method_3_code 5 = .ok (.aconst_null, 1) := by decide +kernel
theorem d2_6 : decode jdk_42_method_3_code 6 = .ok (.invokespecial 27, 3) := by decide +kernel
theorem d2_9 : decode jdk_42_method_3_code 9 = .ok (.return_, 1) := by decide +kernel
theorem pd_0 : parseMethodDescriptor "([CIILjava/lang/Void;)V" = some ⟨[(.array .char), .int, .int, (.object "java/lang/Void")], none⟩ := by decide +kernel
theorem ef_2 (m : MethodId) (a1 : Addr) (a2 : Addr) : entryFrame m #[(.ref a1), (.ref a2)] 2 = mkF m 0 #[.val (.ref a1), .val (.ref a2)] [] := by first | (simp [entryFrame, mkF, argsToLocals, Value.category]; done) | rfl
def Q2 (Z : State) (a1 : Addr) (a2 : Addr) (f : Nat → Value) (h0 : Heap) (n0 : Nat) (v : Option Value) (h : Heap) (L : List Loc) : Prop := v = none ∧ Fr n0 L ∧ Keep h0 h [a1] ∧ Fld Z h a1 "java/lang/String" "coder" "B" (.int 0) ∧ ∃ t kb, Fld Z h a1 "java/lang/String" "value" "[B" (.ref t) ∧ Arv Z h t kb .byte 0 [] (.int 0)
set_option maxRecDepth 65536 in
set_option maxHeartbeats 40000000 in
theorem rm2 (l : Launch) (Z : State) (a0 : Array Value) (hw : ∀ d ∈ tables_1, d.before a0 Z = true) (ws : List Jvm.Cond) (a1 : Addr) (a2 : Addr) (f : Nat → Value) (h0 : Heap) (n0 : Nat) (Z0 : n0 ≤ h0.size) (g_a1 : n0 ≤ a1) (E1 : Exa Z h0 a1 "java/lang/String") (V1 : Fld Z h0 a1 "java/lang/String" "value" "[B" .null) (C1 : Fld Z h0 a1 "java/lang/String" "coder" "B" (.int (0 : Int32))) (A2 : Aw Z h0 a2 .char 0 f) :
    MetFree l (⟨"java/lang/String", "<init>", "([C)V"⟩ : MethodName) (head1 (Jvm.Cond.code (⟨"java/lang/String", "<init>", "([C)V"⟩ : MethodName) jdk_42_method_3_code 2 none :: ws) ({ frames := 2, cells := 4, slots := 8, locals := 29 } : Room)) (fun a U => a = #[(.ref a1), (.ref a2)] ∧ Z.Warmed39 U.vm ∧ U.heap = h0 ∧ CHv Z own_EL U.vm h0) (fun _ _ _ _ _ => True) (fun _ U o U' => ∃ v L, o = .returned v ∧ Q2 Z a1 a2 f h0 n0 v U'.heap L ∧ CHr Z own_EL U.vm U.heap U'.vm U'.heap ∧ ReturnedEndW U o U' L ({ frames := 2, cells := 4, slots := 8, locals := 29 } : Room).cells ({ frames := 2, cells := 4, slots := 8, locals := 29 } : Room).slots) := by
  refine MetFree.of_bodySF (plainFor_of_name pn_3) hisR ?_
  intro p e s m args below meth c s₁ Bd hml0 hP hK
  obtain ⟨rfl, hZ, hh, hch⟩ := hP
  have hx := Bd.exec
  have hby := Bd.bytes
  have hlk := Bd.notSynchronized
  have hml : c.maxLocals = 2 := hml0
  have hown : s.vm.findClass "java/lang/String" = some m.cls := findClass_of_methodNamed Bd.named
  have hnm := (name_of_methodNamed Bd.named Bd.method).1
  have X0 : Stand p l e ({ frames := 2, cells := 4, slots := 8, locals := 29 } : Room) (s.setVm s.vm) m #[(.ref a1), (.ref a2)] below meth c s₁ [] 0 0 := Stand.of_body Bd
  have hS0 : s.Since s.vm s.heap.size := (State.WarmedH.refl s).since _
  have hk0 : s.heap.size ≤ h0.size := Nat.le_of_eq (by rw [hh])
  have hEL := own_EW hw
  have CH0 : CHr Z own_EL s.vm h0 s.vm h0 := CHr.refl hch
  have e0 : s₁.heap = h0 := by rw [← hh, Bd.state]; rfl
  have N0 := Fr.nil n0
  show Goes p e below s (EndH Z own_EL) 4 8 (Q2 Z a1 a2 f h0 n0) s₁ (entryFrame m #[(.ref a1), (.ref a2)] 2)
  refine goEq (ef_2 m a1 a2) ?_
  have sf0_a1 : Safe Z own_EL s.vm h0 a1 := own_safe hZ.alike E1 V1
  refine go (T' := s₁) (g' := (mkF m 1 #[.val (.ref a1), .val (.ref a2)] [(.ref a1)])) (fun t kt => XS.aloadN X0.here hx rfl (hb hby d2_0) rfl rfl kt) ?_
  refine go (T' := s₁) (g' := (mkF m 2 #[.val (.ref a1), .val (.ref a2)] [(.ref a2), (.ref a1)])) (fun t kt => XS.aloadN X0.here hx rfl (hb hby d2_1) rfl rfl kt) ?_
  refine go (T' := s₁) (g' := (mkF m 3 #[.val (.ref a1), .val (.ref a2)] [(.int (0 : Int32)), (.ref a2), (.ref a1)])) (fun t kt => XS.iconst X0.here hx rfl (hb hby d2_2) kt) ?_
  refine go (T' := s₁) (g' := (mkF m 4 #[.val (.ref a1), .val (.ref a2)] [(.ref a2), (.int (0 : Int32)), (.ref a2), (.ref a1)])) (fun t kt => XS.aloadN X0.here hx rfl (hb hby d2_3) rfl rfl kt) ?_
  refine go (T' := s₁) (g' := (mkF m 5 #[.val (.ref a1), .val (.ref a2)] [(.int 0), (.int (0 : Int32)), (.ref a2), (.ref a1)])) (fun t kt => own_len X0 hx hZ e0 A2 (g := (mkF m 4 #[.val (.ref a1), .val (.ref a2)] [(.ref a2), (.int (0 : Int32)), (.ref a2), (.ref a1)])) rfl rfl (hb hby d2_4) _ kt) ?_
  refine go (T' := s₁) (g' := (mkF m 6 #[.val (.ref a1), .val (.ref a2)] [.null, (.int 0), (.int (0 : Int32)), (.ref a2), (.ref a1)])) (fun t kt => XS.aconstNull X0.here hx rfl (hb hby d2_5) kt) ?_
  obtain ⟨_, _, ⟨T1008, L1008, k1008, n1008⟩, -, X1008, hs1008, hg1008, ⟨Lc1008, hQ1008, l1008, y1008, z1008, Cn1008⟩, st1008⟩ := X0.specialBackS hx (y := (⟨"java/lang/String", "<init>", "([CIILjava/lang/Void;)V"⟩ : MethodName)) rfl hown (mvT hZ (hw _ (List.mem_of_getElem? (i := 11) rfl))) (mvT hZ (hw _ (List.mem_of_getElem? (i := 12) rfl))) (mvT hZ (hw _ (List.mem_of_getElem? (i := 14) rfl))) (by decide) (backOfSH (W := 0) (rm3 l Z a0 hw [] a1 a2 0 0 h0 n0 Z0 g_a1 E1 V1 C1 rfl) hZ (hw _ (List.mem_of_getElem? (i := 14) rfl)) (hw _ (List.mem_of_getElem? (i := 6) rfl)) (by decide) (by decide) hEL (own_inv CH0)) (g := (mkF m 6 #[.val (.ref a1), .val (.ref a2)] [.null, (.int 0), (.int (0 : Int32)), (.ref a2), (.ref a1)])) rfl (by rw [hml]; rfl) (Steps.refl _) (a := a1) (argsL := [(.ref a2), (.int (0 : Int32)), (.int 0), .null]) (rest := []) (lenOf pd_0 rfl) rfl (by show 2 * 0 + _ ≤ _; exact Nat.le_of_eq rfl) (hb hby d2_6) (fun _ _ => ⟨rfl, e0, (by decide : 0 + 4 ≤ _), (by decide : 0 + 8 ≤ _)⟩)
  dsimp only [Pt.U, Pt.locs, Pt.cells, Pt.slots] at X1008 l1008 y1008 z1008 st1008 hQ1008 hs1008 hg1008 Cn1008
  subst l1008 y1008 z1008
  have X1008 : Stand p l e ({ frames := 2, cells := 4, slots := 8, locals := 29 } : Room) (s.setVm T1008.vm) m #[(.ref a1), (.ref a2)] below meth c T1008 _ _ _ := X1008
  have hS1008 : s.Since T1008.vm T1008.heap.size := foldS (T := s₁) (U := T1008) hS0 (by rw [e0]; exact hk0) hs1008 hg1008
  have hZ1008 : Z.Warmed39 T1008.vm := State.Warmed39.trans (t := s.setVm s.vm) hZ hs1008.1
  have hown1008 : (s.setVm T1008.vm).vm.findClass "java/lang/String" = some m.cls := by rw [show (s.setVm T1008.vm).vm = T1008.vm from rfl, hs1008.1.alike.findClass]; exact hown
  have C1008 : CHr Z own_EL s.vm h0 T1008.vm T1008.heap := CHr.trans CH0 Cn1008
  have sf1008_a1 : Safe Z own_EL T1008.vm T1008.heap a1 := Cn1008.safe E1.lt sf0_a1
  obtain ⟨rfl, N1008q, K1008, Fc1008, t1008, kb1008, Fv1008, Av1008⟩ := hQ1008
  have N1008 := Fr.app N0 N1008q
  refine goV (T' := T1008) (g' := (mkF m 9 #[.val (.ref a1), .val (.ref a2)] [])) st1008 ?_
  have z1008 : n0 ≤ T1008.heap.size := Nat.le_trans Z0 K1008.1
  have Kp1008 : Keep h0 T1008.heap [a1] := Keep.trans (Keep.refl h0 [a1]) K1008 (kqS (Or.inl (List.mem_of_getElem? (i := 0) rfl)) kq0)
  have fE_a1_1008 : Exa Z T1008.heap a1 "java/lang/String" := E1.keep K1008
  refine goRetVH X1008 hx hlk hS1008 (Nat.le_refl _) (by rw [hh]; exact (CHr.trans C1008 (CHv.at X1008 hZ1008 hEL (own_inv C1008)))) Bd.returns (hb hby d2_9) ?_ (by decide) (by decide)
  exact ⟨rfl, N1008, Kp1008, Fc1008, _, _, Fv1008, Av1008⟩
theorem d1_0 : decode method_2_code 0 = .ok (.iload_n 0, 1) := by decide +kernel
theorem d1_1 : decode method_2_code 1 = .ok (.ifCond .ne 14, 3) := by decide +kernel
theorem d1_4 : decode method_2_code 4 = .ok (.new 7, 3) := by decide +kernel
theorem d1_7 : decode method_2_code 7 = .ok (.dup, 1) := by decide +kernel
theorem d1_8 : decode method_2_code 8 = .ok (.iconst 0, 1) := by decide +kernel
theorem d1_9 : decode method_2_code 9 = .ok (.newarray .char, 2) := by decide +kernel
theorem d1_11 : decode method_2_code 11 = .ok (.invokespecial 9, 3) := by decide +kernel
theorem d1_14 : decode method_2_code 14 = .ok (.areturn, 1) := by decide +kernel
theorem d1_15 : decode method_2_code 15 = .ok (.iload_n 0, 1) := by decide +kernel
theorem d1_16 : decode method_2_code 16 = .ok (.iconst 1, 1) := by decide +kernel
theorem d1_17 : decode method_2_code 17 = .ok (.if_icmp .ne 18, 3) := by decide +kernel
theorem d1_20 : decode method_2_code 20 = .ok (.new 7, 3) := by decide +kernel
theorem d1_23 : decode method_2_code 23 = .ok (.dup, 1) := by decide +kernel
theorem d1_24 : decode method_2_code 24 = .ok (.iconst 1, 1) := by decide +kernel
theorem d1_25 : decode method_2_code 25 = .ok (.newarray .char, 2) := by decide +kernel
theorem d1_27 : decode method_2_code 27 = .ok (.dup, 1) := by decide +kernel
theorem d1_28 : decode method_2_code 28 = .ok (.iconst 0, 1) := by decide +kernel
theorem d1_29 : decode method_2_code 29 = .ok (.iload_n 1, 1) := by decide +kernel
theorem d1_30 : decode method_2_code 30 = .ok (.castore, 1) := by decide +kernel
theorem d1_31 : decode method_2_code 31 = .ok (.invokespecial 9, 3) := by decide +kernel
theorem d1_34 : decode method_2_code 34 = .ok (.areturn, 1) := by decide +kernel
theorem d1_35 : decode method_2_code 35 = .ok (.new 7, 3) := by decide +kernel
theorem d1_38 : decode method_2_code 38 = .ok (.dup, 1) := by decide +kernel
theorem d1_39 : decode method_2_code 39 = .ok (.iconst 2, 1) := by decide +kernel
theorem d1_40 : decode method_2_code 40 = .ok (.newarray .char, 2) := by decide +kernel
theorem d1_42 : decode method_2_code 42 = .ok (.dup, 1) := by decide +kernel
theorem d1_43 : decode method_2_code 43 = .ok (.iconst 0, 1) := by decide +kernel
theorem d1_44 : decode method_2_code 44 = .ok (.iload_n 1, 1) := by decide +kernel
theorem d1_45 : decode method_2_code 45 = .ok (.castore, 1) := by decide +kernel
theorem d1_46 : decode method_2_code 46 = .ok (.dup, 1) := by decide +kernel
theorem d1_47 : decode method_2_code 47 = .ok (.iconst 1, 1) := by decide +kernel
theorem d1_48 : decode method_2_code 48 = .ok (.iload_n 2, 1) := by decide +kernel
theorem d1_49 : decode method_2_code 49 = .ok (.castore, 1) := by decide +kernel
theorem d1_50 : decode method_2_code 50 = .ok (.invokespecial 9, 3) := by decide +kernel
theorem d1_53 : decode method_2_code 53 = .ok (.areturn, 1) := by decide +kernel
theorem pd_1 : parseMethodDescriptor "([C)V" = some ⟨[(.array .char)], none⟩ := by decide +kernel
theorem pn_1 : plainName "com/example/offerloom/offerloom/book/PriceGroupEqualsPinLaw" = true := by first | (simp [plainName, overriddenIn]; done) | decide +kernel
theorem ef_1 (m : MethodId) (p1 : Int32) (c0 : Int32) (c1 : Int32) : entryFrame m #[(.int p1), (.int c0), (.int c1)] 3 = mkF m 0 #[.val (.int p1), .val (.int c0), .val (.int c1)] [] := by first | (simp [entryFrame, mkF, argsToLocals, Value.category]; done) | rfl
def Q1 (Z : State) (p1 : Int32) (c0 : Int32) (c1 : Int32) (z : Int32) (h0 : Heap) (n0 : Nat) (v : Option Value) (h : Heap) (L : List Loc) : Prop := ∃ x, v = some (.ref x) ∧ Fr n0 L ∧ Keep h0 h [] ∧ n0 ≤ x ∧ h0.size ≤ x ∧ StrIs Z h x (own_cs p1 c0 c1)
set_option maxRecDepth 65536 in
set_option maxHeartbeats 40000000 in
theorem rm1 (l : Launch) (Z : State) (a0 : Array Value) (hw : ∀ d ∈ tables_1, d.before a0 Z = true) (ws : List Jvm.Cond) (p1 : Int32) (c0 : Int32) (c1 : Int32) (z : Int32) (h0 : Heap) (n0 : Nat) (Z0 : n0 ≤ h0.size) (OO : Old Z n0 h0) (SC : Sta Z Z.heap "java/lang/String" "COMPACT_STRINGS" "Z" (.int z)) (hz : ¬ z = 0) (hc0 : own_ch c0) (hc1 : own_ch c1) :
    MetFree l (⟨"com/example/offerloom/offerloom/book/PriceGroupEqualsPinLaw", "mk", "(ICC)Ljava/lang/String;"⟩ : MethodName) (head1 (Jvm.Cond.code (⟨"com/example/offerloom/offerloom/book/PriceGroupEqualsPinLaw", "mk", "(ICC)Ljava/lang/String;"⟩ : MethodName) method_2_code 3 (some (.object "java/lang/String")) :: ws) ({ frames := 4, cells := 6, slots := 12, locals := 66 } : Room)) (fun a U => a = #[(.int p1), (.int c0), (.int c1)] ∧ Z.Warmed39 U.vm ∧ U.heap = h0 ∧ CHv Z own_EL U.vm h0) (fun _ _ _ _ _ => True) (fun _ U o U' => ∃ v L, o = .returned v ∧ Q1 Z p1 c0 c1 z h0 n0 v U'.heap L ∧ CHr Z own_EL U.vm U.heap U'.vm U'.heap ∧ ReturnedEndW U o U' L ({ frames := 4, cells := 6, slots := 12, locals := 66 } : Room).cells ({ frames := 4, cells := 6, slots := 12, locals := 66 } : Room).slots) := by
  refine MetFree.of_bodySF (plainFor_of_name pn_1) hisR ?_
  intro p e s m args below meth c s₁ Bd hml0 hP hK
  obtain ⟨rfl, hZ, hh, hch⟩ := hP
  have hx := Bd.exec
  have hby := Bd.bytes
  have hlk := Bd.notSynchronized
  have hml : c.maxLocals = 3 := hml0
  have hown : s.vm.findClass "com/example/offerloom/offerloom/book/PriceGroupEqualsPinLaw" = some m.cls := findClass_of_methodNamed Bd.named
  have hnm := (name_of_methodNamed Bd.named Bd.method).1
  have X0 : Stand p l e ({ frames := 4, cells := 6, slots := 12, locals := 66 } : Room) (s.setVm s.vm) m #[(.int p1), (.int c0), (.int c1)] below meth c s₁ [] 0 0 := Stand.of_body Bd
  have hS0 : s.Since s.vm s.heap.size := (State.WarmedH.refl s).since _
  have hk0 : s.heap.size ≤ h0.size := Nat.le_of_eq (by rw [hh])
  have hEL := own_EW hw
  have CH0 : CHr Z own_EL s.vm h0 s.vm h0 := CHr.refl hch
  have e0 : s₁.heap = h0 := by rw [← hh, Bd.state]; rfl
  have N0 := Fr.nil n0
  show Goes p e below s (EndH Z own_EL) 6 12 (Q1 Z p1 c0 c1 z h0 n0) s₁ (entryFrame m #[(.int p1), (.int c0), (.int c1)] 3)
  refine goEq (ef_1 m p1 c0 c1) ?_
  refine go (T' := s₁) (g' := (mkF m 1 #[.val (.int p1), .val (.int c0), .val (.int c1)] [(.int p1)])) (fun t kt => XS.iloadN X0.here hx rfl (hb hby d1_0) rfl kt) ?_
  by_cases hp0 : p1 = (0 : Int32)
  · refine go (T' := s₁) (g' := (mkF m 4 #[.val (.int p1), .val (.int c0), .val (.int c1)] [])) (fun t kt => XS.ifNo X0.here hx rfl (hb hby d1_1) rfl ((if0 _ _).trans (teq hp0).2) kt) ?_
    obtain ⟨T1009, h1009, X1009, e1009, E1009, A1009, D1009, -, st1009⟩ := newO X0 hx hZ hown (hw _ (List.mem_of_getElem? (i := 4) rfl)) (hw _ (List.mem_of_getElem? (i := 5) rfl)) (hw _ (List.mem_of_getElem? (i := 6) rfl)) e0 (g := (mkF m 4 #[.val (.int p1), .val (.int c0), .val (.int c1)] [])) rfl (hb hby d1_4) (by decide) (by decide)
    obtain ⟨sx, g1009⟩ : ∃ z, z = h0.size := ⟨_, rfl⟩
    rw [← g1009] at A1009 D1009 st1009
    have g_sx : n0 ≤ sx := Nat.le_trans Z0 (Nat.le_of_eq g1009.symm)
    have o_sx : h0.size ≤ sx := Nat.le_trans (Keep.refl h0 []).1 (Nat.le_of_eq g1009.symm)
    have sn1009 : Safe Z own_EL s.vm h0 sx := Safe.new (Nat.le_of_eq g1009.symm)
    have z1009 : n0 ≤ h1009.size := Nat.le_trans Z0 E1009.1
    have y1009 : s.heap.size ≤ h1009.size := Nat.le_trans hk0 E1009.1
    have C1009 : CHr Z own_EL s.vm h0 s.vm h1009 := CHr.trans CH0 (CHr.ext E1009 (own_inv CH0))
    have sf1009_sx : Safe Z own_EL s.vm h1009 sx := Safe.ext E1009 (own_inv CH0) sn1009
    have fO__1009 : Old Z n0 h1009 := OO.ext E1009
    have K1009 : Keep h0 h1009 [] := (Keep.refl h0 []).ext E1009
    have F_value_sx : Fld Z h1009 sx "java/lang/String" "value" "[B" .null := D1009 (Or.inr (hw _ (List.mem_of_getElem? (i := 20) rfl))) (ty := (.array .byte)) (by decide)
    have F_coder_sx : Fld Z h1009 sx "java/lang/String" "coder" "B" (.int (0 : Int32)) := D1009 (Or.inr (hw _ (List.mem_of_getElem? (i := 21) rfl))) (ty := .byte) (by decide)
    refine go (T' := T1009) (g' := (mkF m 7 #[.val (.int p1), .val (.int c0), .val (.int c1)] [(.ref sx)])) st1009 ?_
    refine go (T' := T1009) (g' := (mkF m 8 #[.val (.int p1), .val (.int c0), .val (.int c1)] [(.ref sx), (.ref sx)])) (fun t kt => XS.dup X1009.here hx rfl (hb hby d1_7) rfl rfl kt) ?_
    refine go (T' := T1009) (g' := (mkF m 9 #[.val (.int p1), .val (.int c0), .val (.int c1)] [(.int (0 : Int32)), (.ref sx), (.ref sx)])) (fun t kt => XS.iconst X1009.here hx rfl (hb hby d1_8) kt) ?_
    obtain ⟨T1010, h1010, kc1010, X1010, e1010, E1010, A1010, st1010⟩ := newP X1009 hx hZ (hw _ (List.mem_of_getElem? (i := 7) rfl)) e1009 (g := (mkF m 9 #[.val (.int p1), .val (.int c0), .val (.int c1)] [(.int (0 : Int32)), (.ref sx), (.ref sx)])) rfl (hb hby d1_9) rfl (by decide) (cap := 0) (by decide) (by decide) (by decide) (by decide)
    obtain ⟨cx, g1010⟩ : ∃ z, z = h1009.size := ⟨_, rfl⟩
    rw [← g1010] at A1010 st1010
    have ne_sx_cx : sx ≠ cx := Nat.ne_of_lt (Nat.lt_of_lt_of_le A1009.lt (Nat.le_of_eq g1010.symm))
    have g_cx : n0 ≤ cx := Nat.le_trans z1009 (Nat.le_of_eq g1010.symm)
    have o_cx : h0.size ≤ cx := Nat.le_trans K1009.1 (Nat.le_of_eq g1010.symm)
    have sn1010 : Safe Z own_EL s.vm h1009 cx := Safe.new (Nat.le_of_eq g1010.symm)
    have z1010 : n0 ≤ h1010.size := Nat.le_trans z1009 E1010.1
    have y1010 : s.heap.size ≤ h1010.size := Nat.le_trans y1009 E1010.1
    have C1010 : CHr Z own_EL s.vm h0 s.vm h1010 := CHr.trans C1009 (CHr.ext E1010 (own_inv C1009))
    have sf1010_sx : Safe Z own_EL s.vm h1010 sx := Safe.ext E1010 (own_inv C1009) sf1009_sx
    have sf1010_cx : Safe Z own_EL s.vm h1010 cx := Safe.ext E1010 (own_inv C1009) sn1010
    have fO__1010 : Old Z n0 h1010 := fO__1009.ext E1010
    have fE_sx_1010 : Exa Z h1010 sx "java/lang/String" := A1009.ext E1010
    have fF_sx_value_1010 : Fld Z h1010 sx "java/lang/String" "value" "[B" .null := F_value_sx.ext E1010
    have fF_sx_coder_1010 : Fld Z h1010 sx "java/lang/String" "coder" "B" (.int (0 : Int32)) := F_coder_sx.ext E1010
    have K1010 : Keep h0 h1010 [] := K1009.ext E1010
    have V_cx : Aw Z h1010 cx .char (0 : Int32) (fun _ => defaultValue .char) := Aw.new A1010 (by decide)
    refine go (T' := T1010) (g' := (mkF m 11 #[.val (.int p1), .val (.int c0), .val (.int c1)] [(.ref cx), (.ref sx), (.ref sx)])) st1010 ?_
    obtain ⟨_, _, ⟨T1012, L1012, k1012, n1012⟩, -, X1012, hs1012, hg1012, ⟨Lc1012, hQ1012, l1012, y1012, z1012, Cn1012⟩, st1012⟩ := X1010.specialBackS hx (y := (⟨"java/lang/String", "<init>", "([C)V"⟩ : MethodName)) rfl hown (mvT hZ (hw _ (List.mem_of_getElem? (i := 8) rfl))) (mvT hZ (hw _ (List.mem_of_getElem? (i := 9) rfl))) (mvT hZ (hw _ (List.mem_of_getElem? (i := 10) rfl))) (by decide) (backOfSH (W := 1) (rm2 l Z a0 hw [] sx cx _ h1010 n0 z1010 g_sx fE_sx_1010 fF_sx_value_1010 fF_sx_coder_1010 V_cx) hZ (hw _ (List.mem_of_getElem? (i := 10) rfl)) (hw _ (List.mem_of_getElem? (i := 6) rfl)) (by decide) (by decide) hEL (own_inv C1010)) (g := (mkF m 11 #[.val (.int p1), .val (.int c0), .val (.int c1)] [(.ref cx), (.ref sx), (.ref sx)])) rfl (by rw [hml]; rfl) (Steps.refl _) (a := sx) (argsL := [(.ref cx)]) (rest := [(.ref sx)]) (lenOf pd_1 rfl) rfl (by show 2 * 0 + _ ≤ _; exact Nat.le_of_eq rfl) (hb hby d1_11) (fun _ _ => ⟨rfl, e1010, (by decide : 2 + 4 ≤ _), (by decide : 4 + 8 ≤ _)⟩)
    dsimp only [Pt.U, Pt.locs, Pt.cells, Pt.slots] at X1012 l1012 y1012 z1012 st1012 hQ1012 hs1012 hg1012 Cn1012
    subst l1012 y1012 z1012
    have X1012 : Stand p l e ({ frames := 4, cells := 6, slots := 12, locals := 66 } : Room) (s.setVm T1012.vm) m #[(.int p1), (.int c0), (.int c1)] below meth c T1012 _ _ _ := X1012
    have hS1012 : s.Since T1012.vm T1012.heap.size := foldS (T := T1010) (U := T1012) hS0 (by rw [e1010]; exact y1010) hs1012 hg1012
    have hZ1012 : Z.Warmed39 T1012.vm := State.Warmed39.trans (t := s.setVm s.vm) hZ hs1012.1
    have hown1012 : (s.setVm T1012.vm).vm.findClass "com/example/offerloom/offerloom/book/PriceGroupEqualsPinLaw" = some m.cls := by rw [show (s.setVm T1012.vm).vm = T1012.vm from rfl, hs1012.1.alike.findClass]; exact hown
    have C1012 : CHr Z own_EL s.vm h0 T1012.vm T1012.heap := CHr.trans C1010 Cn1012
    have sf1012_sx : Safe Z own_EL T1012.vm T1012.heap sx := Cn1012.safe fE_sx_1010.lt sf1010_sx
    obtain ⟨rfl, N1012q, K1012, Fc1012, t1012, kb1012, Fv1012, Av1012⟩ := hQ1012
    have N1012 := Fr.app N0 N1012q
    refine goV (T' := T1012) (g' := (mkF m 14 #[.val (.int p1), .val (.int c0), .val (.int c1)] [(.ref sx)])) st1012 ?_
    have z1012 : n0 ≤ T1012.heap.size := Nat.le_trans z1010 K1012.1
    have Kp1012 : Keep h0 T1012.heap [] := Keep.trans K1010 K1012 (kqS (Or.inr o_sx) kq0)
    have fO__1012 : Old Z n0 T1012.heap := fO__1010.keep K1012 (allS g_sx all0)
    have fE_sx_1012 : Exa Z T1012.heap sx "java/lang/String" := fE_sx_1010.keep K1012
    have hS_ : StrIs Z T1012.heap sx (own_cs p1 c0 c1) := by
      rw [show own_cs p1 c0 c1 = [] from if_pos hp0]
      exact ⟨_, _, _, _, fE_sx_1012, Fc1012, Fv1012, Av1012, own_cod0, (fun _ q => nomatch q), by decide⟩
    refine goRetAH X1012 hx hlk hS1012 (Nat.le_refl _) (by rw [hh]; exact (CHr.trans C1012 (CHv.at X1012 hZ1012 hEL (own_inv C1012)))) Bd.returns rfl rfl rfl (hb hby d1_14) ?_ (by decide) (by decide)
    exact ⟨sx, rfl, N1012, Kp1012, g_sx, o_sx, hS_⟩
  · refine go (T' := s₁) (g' := (mkF m 15 #[.val (.int p1), .val (.int c0), .val (.int c1)] [])) (fun t kt => XS.ifYes X0.here hx rfl (pc0 := 1) (pc' := 15) rfl (hb hby d1_1) rfl ((if0 _ _).trans (feq hp0).2) (by decide) (by decide) kt) ?_
    refine go (T' := s₁) (g' := (mkF m 16 #[.val (.int p1), .val (.int c0), .val (.int c1)] [(.int p1)])) (fun t kt => XS.iloadN X0.here hx rfl (hb hby d1_15) rfl kt) ?_
    refine go (T' := s₁) (g' := (mkF m 17 #[.val (.int p1), .val (.int c0), .val (.int c1)] [(.int (1 : Int32)), (.int p1)])) (fun t kt => XS.iconst X0.here hx rfl (hb hby d1_16) kt) ?_
    by_cases hp1 : p1 = (1 : Int32)
    · refine go (T' := s₁) (g' := (mkF m 20 #[.val (.int p1), .val (.int c0), .val (.int c1)] [])) (fun t kt => XS.icmpNo X0.here hx rfl (hb hby d1_17) rfl (teq hp1).2 kt) ?_
      obtain ⟨T1013, h1013, X1013, e1013, E1013, A1013, D1013, -, st1013⟩ := newO X0 hx hZ hown (hw _ (List.mem_of_getElem? (i := 4) rfl)) (hw _ (List.mem_of_getElem? (i := 5) rfl)) (hw _ (List.mem_of_getElem? (i := 6) rfl)) e0 (g := (mkF m 20 #[.val (.int p1), .val (.int c0), .val (.int c1)] [])) rfl (hb hby d1_20) (by decide) (by decide)
      obtain ⟨sx, g1013⟩ : ∃ z, z = h0.size := ⟨_, rfl⟩
      rw [← g1013] at A1013 D1013 st1013
      have g_sx : n0 ≤ sx := Nat.le_trans Z0 (Nat.le_of_eq g1013.symm)
      have o_sx : h0.size ≤ sx := Nat.le_trans (Keep.refl h0 []).1 (Nat.le_of_eq g1013.symm)
      have sn1013 : Safe Z own_EL s.vm h0 sx := Safe.new (Nat.le_of_eq g1013.symm)
      have z1013 : n0 ≤ h1013.size := Nat.le_trans Z0 E1013.1
      have y1013 : s.heap.size ≤ h1013.size := Nat.le_trans hk0 E1013.1
      have C1013 : CHr Z own_EL s.vm h0 s.vm h1013 := CHr.trans CH0 (CHr.ext E1013 (own_inv CH0))
      have sf1013_sx : Safe Z own_EL s.vm h1013 sx := Safe.ext E1013 (own_inv CH0) sn1013
      have fO__1013 : Old Z n0 h1013 := OO.ext E1013
      have K1013 : Keep h0 h1013 [] := (Keep.refl h0 []).ext E1013
      have F_value_sx : Fld Z h1013 sx "java/lang/String" "value" "[B" .null := D1013 (Or.inr (hw _ (List.mem_of_getElem? (i := 20) rfl))) (ty := (.array .byte)) (by decide)
      have F_coder_sx : Fld Z h1013 sx "java/lang/String" "coder" "B" (.int (0 : Int32)) := D1013 (Or.inr (hw _ (List.mem_of_getElem? (i := 21) rfl))) (ty := .byte) (by decide)
      refine go (T' := T1013) (g' := (mkF m 23 #[.val (.int p1), .val (.int c0), .val (.int c1)] [(.ref sx)])) st1013 ?_
      refine go (T' := T1013) (g' := (mkF m 24 #[.val (.int p1), .val (.int c0), .val (.int c1)] [(.ref sx), (.ref sx)])) (fun t kt => XS.dup X1013.here hx rfl (hb hby d1_23) rfl rfl kt) ?_
      refine go (T' := T1013) (g' := (mkF m 25 #[.val (.int p1), .val (.int c0), .val (.int c1)] [(.int (1 : Int32)), (.ref sx), (.ref sx)])) (fun t kt => XS.iconst X1013.here hx rfl (hb hby d1_24) kt) ?_
      obtain ⟨T1014, h1014, kc1014, X1014, e1014, E1014, A1014, st1014⟩ := newP X1013 hx hZ (hw _ (List.mem_of_getElem? (i := 7) rfl)) e1013 (g := (mkF m 25 #[.val (.int p1), .val (.int c0), .val (.int c1)] [(.int (1 : Int32)), (.ref sx), (.ref sx)])) rfl (hb hby d1_25) rfl (by decide) (cap := 1) (by decide) (by decide) (by decide) (by decide)
      obtain ⟨cx, g1014⟩ : ∃ z, z = h1013.size := ⟨_, rfl⟩
      rw [← g1014] at A1014 st1014
      have ne_sx_cx : sx ≠ cx := Nat.ne_of_lt (Nat.lt_of_lt_of_le A1013.lt (Nat.le_of_eq g1014.symm))
      have g_cx : n0 ≤ cx := Nat.le_trans z1013 (Nat.le_of_eq g1014.symm)
      have o_cx : h0.size ≤ cx := Nat.le_trans K1013.1 (Nat.le_of_eq g1014.symm)
      have sn1014 : Safe Z own_EL s.vm h1013 cx := Safe.new (Nat.le_of_eq g1014.symm)
      have z1014 : n0 ≤ h1014.size := Nat.le_trans z1013 E1014.1
      have y1014 : s.heap.size ≤ h1014.size := Nat.le_trans y1013 E1014.1
      have C1014 : CHr Z own_EL s.vm h0 s.vm h1014 := CHr.trans C1013 (CHr.ext E1014 (own_inv C1013))
      have sf1014_sx : Safe Z own_EL s.vm h1014 sx := Safe.ext E1014 (own_inv C1013) sf1013_sx
      have sf1014_cx : Safe Z own_EL s.vm h1014 cx := Safe.ext E1014 (own_inv C1013) sn1014
      have fO__1014 : Old Z n0 h1014 := fO__1013.ext E1014
      have fE_sx_1014 : Exa Z h1014 sx "java/lang/String" := A1013.ext E1014
      have fF_sx_value_1014 : Fld Z h1014 sx "java/lang/String" "value" "[B" .null := F_value_sx.ext E1014
      have fF_sx_coder_1014 : Fld Z h1014 sx "java/lang/String" "coder" "B" (.int (0 : Int32)) := F_coder_sx.ext E1014
      have K1014 : Keep h0 h1014 [] := K1013.ext E1014
      have V_cx : Aw Z h1014 cx .char (1 : Int32) (fun _ => defaultValue .char) := Aw.new A1014 (by decide)
      refine go (T' := T1014) (g' := (mkF m 27 #[.val (.int p1), .val (.int c0), .val (.int c1)] [(.ref cx), (.ref sx), (.ref sx)])) st1014 ?_
      refine go (T' := T1014) (g' := (mkF m 28 #[.val (.int p1), .val (.int c0), .val (.int c1)] [(.ref cx), (.ref cx), (.ref sx), (.ref sx)])) (fun t kt => XS.dup X1014.here hx rfl (hb hby d1_27) rfl rfl kt) ?_
      refine go (T' := T1014) (g' := (mkF m 29 #[.val (.int p1), .val (.int c0), .val (.int c1)] [(.int (0 : Int32)), (.ref cx), (.ref cx), (.ref sx), (.ref sx)])) (fun t kt => XS.iconst X1014.here hx rfl (hb hby d1_28) kt) ?_
      refine go (T' := T1014) (g' := (mkF m 30 #[.val (.int p1), .val (.int c0), .val (.int c1)] [(.int c0), (.int (0 : Int32)), (.ref cx), (.ref cx), (.ref sx), (.ref sx)])) (fun t kt => XS.iloadN X1014.here hx rfl (hb hby d1_29) rfl kt) ?_
      obtain ⟨T1015, h1015, X1015, e1015, W1015, V1015, st1015⟩ := own_stC X1014 hx hZ e1014 V_cx (j := (0 : Int32)) ⟨by decide, by decide⟩ (g := (mkF m 30 #[.val (.int p1), .val (.int c0), .val (.int c1)] [(.int c0), (.int (0 : Int32)), (.ref cx), (.ref cx), (.ref sx), (.ref sx)])) rfl rfl (hb hby d1_30)
      have z1015 : n0 ≤ h1015.size := Nat.le_trans z1014 (Keep.of_wr W1015).1
      have y1015 : s.heap.size ≤ h1015.size := Nat.le_trans y1014 (Keep.of_wr W1015).1
      have C1015 : CHr Z own_EL s.vm h0 s.vm h1015 := CHr.trans C1014 (CHr.wr W1015 sf1014_cx (own_inv C1014))
      have sf1015_sx : Safe Z own_EL s.vm h1015 sx := Safe.wr W1015 sf1014_cx (own_inv C1014) sf1014_sx
      have sf1015_cx : Safe Z own_EL s.vm h1015 cx := Safe.wr W1015 sf1014_cx (own_inv C1014) sf1014_cx
      have fO__1015 : Old Z n0 h1015 := fO__1014.wr W1015 g_cx
      have fE_sx_1015 : Exa Z h1015 sx "java/lang/String" := fE_sx_1014.wr W1015
      have fF_sx_value_1015 : Fld Z h1015 sx "java/lang/String" "value" "[B" .null := fF_sx_value_1014.other W1015 (Or.inl ne_sx_cx)
      have fF_sx_coder_1015 : Fld Z h1015 sx "java/lang/String" "coder" "B" (.int (0 : Int32)) := fF_sx_coder_1014.other W1015 (Or.inl ne_sx_cx)
      have K1015 : Keep h0 h1015 [] := K1014.wr W1015 (Or.inr o_cx)
      have N1015 := Fr.snoc X1015 N0 g_cx
      refine go (T' := T1015) (g' := (mkF m 31 #[.val (.int p1), .val (.int c0), .val (.int c1)] [(.ref cx), (.ref sx), (.ref sx)])) st1015 ?_
      obtain ⟨kq1016, Aq1016⟩ := Aw.arv (d := .int 0) V1015 (own_f1 _)
      have hp1016 : ∀ c ∈ ([(nar .char c0)] : List Int32), own_ch c := by rw [own_ch_nar hc0]; exact own_one hc0
      obtain ⟨_, _, ⟨T1016, L1016, k1016, n1016⟩, -, X1016, ⟨Lc1016, hQ1016, l1016, y1016, z1016⟩, st1016⟩ := X1015.specialBack hx (y := (⟨"java/lang/String", "<init>", "([C)V"⟩ : MethodName)) rfl hown (mvT hZ (hw _ (List.mem_of_getElem? (i := 8) rfl))) (mvT hZ (hw _ (List.mem_of_getElem? (i := 9) rfl))) (mvT hZ (hw _ (List.mem_of_getElem? (i := 10) rfl))) (by decide) (StrChars.Road.backV (W := 1) hZ (own_ws hw) (kI := 4) (hw _ (List.mem_of_getElem? (i := 5) rfl)) (cs := [(nar .char c0)]) (bs := ([(nar .char c0)] : List Int32).map (fun c => c.toInt8.toInt32)) (n := 1) g_sx z1015 fE_sx_1015 fF_sx_value_1015 fF_sx_coder_1015 Aq1016 (SC.ext fO__1015.2) hz rfl rfl (by decide) (by decide) (own_up hp1016).1 rfl (by decide) (by decide)) (g := (mkF m 31 #[.val (.int p1), .val (.int c0), .val (.int c1)] [(.ref cx), (.ref sx), (.ref sx)])) rfl (by rw [hml]; rfl) (Steps.refl _) (a := sx) (argsL := [(.ref cx)]) (rest := [(.ref sx)]) (lenOf pd_1 rfl) rfl (by show 2 * 0 + _ ≤ _; exact Nat.le_of_eq rfl) (hb hby d1_31) (fun _ _ => ⟨rfl, e1015, (by decide : 2 + 1 ≤ _), (by decide : 5 + 1 ≤ _)⟩)
      dsimp only [Pt.U, Pt.locs, Pt.cells, Pt.slots] at X1016 l1016 y1016 z1016 st1016 hQ1016
      subst l1016 y1016 z1016
      obtain ⟨rfl, N1016q, K1016, -, Fc1016, t1016, kb1016, -, -, -, Fv1016, Av1016⟩ := hQ1016
      have N1016 := Fr.app N1015 N1016q
      refine goV (T' := T1016) (g' := (mkF m 34 #[.val (.int p1), .val (.int c0), .val (.int c1)] [(.ref sx)])) st1016 ?_
      have z1016 : n0 ≤ T1016.heap.size := Nat.le_trans z1015 K1016.1
      have y1016 : s.heap.size ≤ T1016.heap.size := Nat.le_trans y1015 K1016.1
      have C1016 : CHr Z own_EL s.vm h0 s.vm T1016.heap := CHr.trans C1015 (CHr.keep K1016 (sfS sf1015_sx sf0) (own_inv C1015))
      have sf1016_sx : Safe Z own_EL s.vm T1016.heap sx := Safe.keep K1016 (sfS sf1015_sx sf0) (own_inv C1015) sf1015_sx
      have Kp1016 : Keep h0 T1016.heap [] := Keep.trans K1015 K1016 (kqS (Or.inr o_sx) kq0)
      have fO__1016 : Old Z n0 T1016.heap := fO__1015.keep K1016 (allS g_sx all0)
      have fE_sx_1016 : Exa Z T1016.heap sx "java/lang/String" := fE_sx_1015.keep K1016
      have hS_ : StrIs Z T1016.heap sx (own_cs p1 c0 c1) := by
        have e1 : own_cs p1 c0 c1 = [(nar .char c0)] := by rw [own_ch_nar hc0]; exact (if_neg hp0).trans (if_pos hp1)
        rw [e1]
        exact ⟨_, _, _, _, fE_sx_1016, Fc1016, Fv1016, Av1016, own_cod rfl (fun c hc => ((own_up hp1016).1 c hc).2), (own_up hp1016).2, Nat.le_of_ble_eq_true rfl⟩
      refine goRetAH X1016 hx hlk hS0 y1016 (by rw [hh]; exact (CHr.trans C1016 (CHv.at X1016 hZ hEL (own_inv C1016)))) Bd.returns rfl rfl rfl (hb hby d1_34) ?_ (by decide) (by decide)
      exact ⟨sx, rfl, N1016, Kp1016, g_sx, o_sx, hS_⟩
    · refine go (T' := s₁) (g' := (mkF m 35 #[.val (.int p1), .val (.int c0), .val (.int c1)] [])) (fun t kt => XS.icmpYes X0.here hx rfl (pc0 := 17) (pc' := 35) rfl (hb hby d1_17) rfl (feq hp1).2 (by decide) (by decide) kt) ?_
      obtain ⟨T1017, h1017, X1017, e1017, E1017, A1017, D1017, -, st1017⟩ := newO X0 hx hZ hown (hw _ (List.mem_of_getElem? (i := 4) rfl)) (hw _ (List.mem_of_getElem? (i := 5) rfl)) (hw _ (List.mem_of_getElem? (i := 6) rfl)) e0 (g := (mkF m 35 #[.val (.int p1), .val (.int c0), .val (.int c1)] [])) rfl (hb hby d1_35) (by decide) (by decide)
      obtain ⟨sx, g1017⟩ : ∃ z, z = h0.size := ⟨_, rfl⟩
      rw [← g1017] at A1017 D1017 st1017
      have g_sx : n0 ≤ sx := Nat.le_trans Z0 (Nat.le_of_eq g1017.symm)
      have o_sx : h0.size ≤ sx := Nat.le_trans (Keep.refl h0 []).1 (Nat.le_of_eq g1017.symm)
      have sn1017 : Safe Z own_EL s.vm h0 sx := Safe.new (Nat.le_of_eq g1017.symm)
      have z1017 : n0 ≤ h1017.size := Nat.le_trans Z0 E1017.1
      have y1017 : s.heap.size ≤ h1017.size := Nat.le_trans hk0 E1017.1
      have C1017 : CHr Z own_EL s.vm h0 s.vm h1017 := CHr.trans CH0 (CHr.ext E1017 (own_inv CH0))
      have sf1017_sx : Safe Z own_EL s.vm h1017 sx := Safe.ext E1017 (own_inv CH0) sn1017
      have fO__1017 : Old Z n0 h1017 := OO.ext E1017
      have K1017 : Keep h0 h1017 [] := (Keep.refl h0 []).ext E1017
      have F_value_sx : Fld Z h1017 sx "java/lang/String" "value" "[B" .null := D1017 (Or.inr (hw _ (List.mem_of_getElem? (i := 20) rfl))) (ty := (.array .byte)) (by decide)
      have F_coder_sx : Fld Z h1017 sx "java/lang/String" "coder" "B" (.int (0 : Int32)) := D1017 (Or.inr (hw _ (List.mem_of_getElem? (i := 21) rfl))) (ty := .byte) (by decide)
      refine go (T' := T1017) (g' := (mkF m 38 #[.val (.int p1), .val (.int c0), .val (.int c1)] [(.ref sx)])) st1017 ?_
      refine go (T' := T1017) (g' := (mkF m 39 #[.val (.int p1), .val (.int c0), .val (.int c1)] [(.ref sx), (.ref sx)])) (fun t kt => XS.dup X1017.here hx rfl (hb hby d1_38) rfl rfl kt) ?_
      refine go (T' := T1017) (g' := (mkF m 40 #[.val (.int p1), .val (.int c0), .val (.int c1)] [(.int (2 : Int32)), (.ref sx), (.ref sx)])) (fun t kt => XS.iconst X1017.here hx rfl (hb hby d1_39) kt) ?_
      obtain ⟨T1018, h1018, kc1018, X1018, e1018, E1018, A1018, st1018⟩ := newP X1017 hx hZ (hw _ (List.mem_of_getElem? (i := 7) rfl)) e1017 (g := (mkF m 40 #[.val (.int p1), .val (.int c0), .val (.int c1)] [(.int (2 : Int32)), (.ref sx), (.ref sx)])) rfl (hb hby d1_40) rfl (by decide) (cap := 2) (by decide) (by decide) (by decide) (by decide)
      obtain ⟨cx, g1018⟩ : ∃ z, z = h1017.size := ⟨_, rfl⟩
      rw [← g1018] at A1018 st1018
      have ne_sx_cx : sx ≠ cx := Nat.ne_of_lt (Nat.lt_of_lt_of_le A1017.lt (Nat.le_of_eq g1018.symm))
      have g_cx : n0 ≤ cx := Nat.le_trans z1017 (Nat.le_of_eq g1018.symm)
      have o_cx : h0.size ≤ cx := Nat.le_trans K1017.1 (Nat.le_of_eq g1018.symm)
      have sn1018 : Safe Z own_EL s.vm h1017 cx := Safe.new (Nat.le_of_eq g1018.symm)
      have z1018 : n0 ≤ h1018.size := Nat.le_trans z1017 E1018.1
      have y1018 : s.heap.size ≤ h1018.size := Nat.le_trans y1017 E1018.1
      have C1018 : CHr Z own_EL s.vm h0 s.vm h1018 := CHr.trans C1017 (CHr.ext E1018 (own_inv C1017))
      have sf1018_sx : Safe Z own_EL s.vm h1018 sx := Safe.ext E1018 (own_inv C1017) sf1017_sx
      have sf1018_cx : Safe Z own_EL s.vm h1018 cx := Safe.ext E1018 (own_inv C1017) sn1018
      have fO__1018 : Old Z n0 h1018 := fO__1017.ext E1018
      have fE_sx_1018 : Exa Z h1018 sx "java/lang/String" := A1017.ext E1018
      have fF_sx_value_1018 : Fld Z h1018 sx "java/lang/String" "value" "[B" .null := F_value_sx.ext E1018
      have fF_sx_coder_1018 : Fld Z h1018 sx "java/lang/String" "coder" "B" (.int (0 : Int32)) := F_coder_sx.ext E1018
      have K1018 : Keep h0 h1018 [] := K1017.ext E1018
      have V_cx : Aw Z h1018 cx .char (2 : Int32) (fun _ => defaultValue .char) := Aw.new A1018 (by decide)
      refine go (T' := T1018) (g' := (mkF m 42 #[.val (.int p1), .val (.int c0), .val (.int c1)] [(.ref cx), (.ref sx), (.ref sx)])) st1018 ?_
      refine go (T' := T1018) (g' := (mkF m 43 #[.val (.int p1), .val (.int c0), .val (.int c1)] [(.ref cx), (.ref cx), (.ref sx), (.ref sx)])) (fun t kt => XS.dup X1018.here hx rfl (hb hby d1_42) rfl rfl kt) ?_
      refine go (T' := T1018) (g' := (mkF m 44 #[.val (.int p1), .val (.int c0), .val (.int c1)] [(.int (0 : Int32)), (.ref cx), (.ref cx), (.ref sx), (.ref sx)])) (fun t kt => XS.iconst X1018.here hx rfl (hb hby d1_43) kt) ?_
      refine go (T' := T1018) (g' := (mkF m 45 #[.val (.int p1), .val (.int c0), .val (.int c1)] [(.int c0), (.int (0 : Int32)), (.ref cx), (.ref cx), (.ref sx), (.ref sx)])) (fun t kt => XS.iloadN X1018.here hx rfl (hb hby d1_44) rfl kt) ?_
      obtain ⟨T1019, h1019, X1019, e1019, W1019, V1019, st1019⟩ := own_stC X1018 hx hZ e1018 V_cx (j := (0 : Int32)) ⟨by decide, by decide⟩ (g := (mkF m 45 #[.val (.int p1), .val (.int c0), .val (.int c1)] [(.int c0), (.int (0 : Int32)), (.ref cx), (.ref cx), (.ref sx), (.ref sx)])) rfl rfl (hb hby d1_45)
      have z1019 : n0 ≤ h1019.size := Nat.le_trans z1018 (Keep.of_wr W1019).1
      have y1019 : s.heap.size ≤ h1019.size := Nat.le_trans y1018 (Keep.of_wr W1019).1
      have C1019 : CHr Z own_EL s.vm h0 s.vm h1019 := CHr.trans C1018 (CHr.wr W1019 sf1018_cx (own_inv C1018))
      have sf1019_sx : Safe Z own_EL s.vm h1019 sx := Safe.wr W1019 sf1018_cx (own_inv C1018) sf1018_sx
      have sf1019_cx : Safe Z own_EL s.vm h1019 cx := Safe.wr W1019 sf1018_cx (own_inv C1018) sf1018_cx
      have fO__1019 : Old Z n0 h1019 := fO__1018.wr W1019 g_cx
      have fE_sx_1019 : Exa Z h1019 sx "java/lang/String" := fE_sx_1018.wr W1019
      have fF_sx_value_1019 : Fld Z h1019 sx "java/lang/String" "value" "[B" .null := fF_sx_value_1018.other W1019 (Or.inl ne_sx_cx)
      have fF_sx_coder_1019 : Fld Z h1019 sx "java/lang/String" "coder" "B" (.int (0 : Int32)) := fF_sx_coder_1018.other W1019 (Or.inl ne_sx_cx)
      have K1019 : Keep h0 h1019 [] := K1018.wr W1019 (Or.inr o_cx)
      have N1019 := Fr.snoc X1019 N0 g_cx
      refine go (T' := T1019) (g' := (mkF m 46 #[.val (.int p1), .val (.int c0), .val (.int c1)] [(.ref cx), (.ref sx), (.ref sx)])) st1019 ?_
      refine go (T' := T1019) (g' := (mkF m 47 #[.val (.int p1), .val (.int c0), .val (.int c1)] [(.ref cx), (.ref cx), (.ref sx), (.ref sx)])) (fun t kt => XS.dup X1019.here hx rfl (hb hby d1_46) rfl rfl kt) ?_
      refine go (T' := T1019) (g' := (mkF m 48 #[.val (.int p1), .val (.int c0), .val (.int c1)] [(.int (1 : Int32)), (.ref cx), (.ref cx), (.ref sx), (.ref sx)])) (fun t kt => XS.iconst X1019.here hx rfl (hb hby d1_47) kt) ?_
      refine go (T' := T1019) (g' := (mkF m 49 #[.val (.int p1), .val (.int c0), .val (.int c1)] [(.int c1), (.int (1 : Int32)), (.ref cx), (.ref cx), (.ref sx), (.ref sx)])) (fun t kt => XS.iloadN X1019.here hx rfl (hb hby d1_48) rfl kt) ?_
      obtain ⟨T1020, h1020, X1020, e1020, W1020, V1020, st1020⟩ := own_stC X1019 hx hZ e1019 V1019 (j := (1 : Int32)) ⟨by decide, by decide⟩ (g := (mkF m 49 #[.val (.int p1), .val (.int c0), .val (.int c1)] [(.int c1), (.int (1 : Int32)), (.ref cx), (.ref cx), (.ref sx), (.ref sx)])) rfl rfl (hb hby d1_49)
      have z1020 : n0 ≤ h1020.size := Nat.le_trans z1019 (Keep.of_wr W1020).1
      have y1020 : s.heap.size ≤ h1020.size := Nat.le_trans y1019 (Keep.of_wr W1020).1
      have C1020 : CHr Z own_EL s.vm h0 s.vm h1020 := CHr.trans C1019 (CHr.wr W1020 sf1019_cx (own_inv C1019))
      have sf1020_sx : Safe Z own_EL s.vm h1020 sx := Safe.wr W1020 sf1019_cx (own_inv C1019) sf1019_sx
      have sf1020_cx : Safe Z own_EL s.vm h1020 cx := Safe.wr W1020 sf1019_cx (own_inv C1019) sf1019_cx
      have fO__1020 : Old Z n0 h1020 := fO__1019.wr W1020 g_cx
      have fE_sx_1020 : Exa Z h1020 sx "java/lang/String" := fE_sx_1019.wr W1020
      have fF_sx_value_1020 : Fld Z h1020 sx "java/lang/String" "value" "[B" .null := fF_sx_value_1019.other W1020 (Or.inl ne_sx_cx)
      have fF_sx_coder_1020 : Fld Z h1020 sx "java/lang/String" "coder" "B" (.int (0 : Int32)) := fF_sx_coder_1019.other W1020 (Or.inl ne_sx_cx)
      have K1020 : Keep h0 h1020 [] := K1019.wr W1020 (Or.inr o_cx)
      have N1020 := Fr.snoc X1020 N1019 g_cx
      refine go (T' := T1020) (g' := (mkF m 50 #[.val (.int p1), .val (.int c0), .val (.int c1)] [(.ref cx), (.ref sx), (.ref sx)])) st1020 ?_
      obtain ⟨kq1021, Aq1021⟩ := Aw.arv (d := .int 0) V1020 (own_f2 _ _)
      have hp1021 : ∀ c ∈ ([(nar .char c0), (nar .char c1)] : List Int32), own_ch c := by rw [own_ch_nar hc0, own_ch_nar hc1]; exact own_two hc0 hc1
      obtain ⟨_, _, ⟨T1021, L1021, k1021, n1021⟩, -, X1021, ⟨Lc1021, hQ1021, l1021, y1021, z1021⟩, st1021⟩ := X1020.specialBack hx (y := (⟨"java/lang/String", "<init>", "([C)V"⟩ : MethodName)) rfl hown (mvT hZ (hw _ (List.mem_of_getElem? (i := 8) rfl))) (mvT hZ (hw _ (List.mem_of_getElem? (i := 9) rfl))) (mvT hZ (hw _ (List.mem_of_getElem? (i := 10) rfl))) (by decide) (StrChars.Road.backV (W := 1) hZ (own_ws hw) (kI := 4) (hw _ (List.mem_of_getElem? (i := 5) rfl)) (cs := [(nar .char c0), (nar .char c1)]) (bs := ([(nar .char c0), (nar .char c1)] : List Int32).map (fun c => c.toInt8.toInt32)) (n := 2) g_sx z1020 fE_sx_1020 fF_sx_value_1020 fF_sx_coder_1020 Aq1021 (SC.ext fO__1020.2) hz rfl rfl (by decide) (by decide) (own_up hp1021).1 rfl (by decide) (by decide)) (g := (mkF m 50 #[.val (.int p1), .val (.int c0), .val (.int c1)] [(.ref cx), (.ref sx), (.ref sx)])) rfl (by rw [hml]; rfl) (Steps.refl _) (a := sx) (argsL := [(.ref cx)]) (rest := [(.ref sx)]) (lenOf pd_1 rfl) rfl (by show 2 * 0 + _ ≤ _; exact Nat.le_of_eq rfl) (hb hby d1_50) (fun _ _ => ⟨rfl, e1020, (by decide : 2 + 1 ≤ _), (by decide : 6 + 2 ≤ _)⟩)
      dsimp only [Pt.U, Pt.locs, Pt.cells, Pt.slots] at X1021 l1021 y1021 z1021 st1021 hQ1021
      subst l1021 y1021 z1021
      obtain ⟨rfl, N1021q, K1021, -, Fc1021, t1021, kb1021, -, -, -, Fv1021, Av1021⟩ := hQ1021
      have N1021 := Fr.app N1020 N1021q
      refine goV (T' := T1021) (g' := (mkF m 53 #[.val (.int p1), .val (.int c0), .val (.int c1)] [(.ref sx)])) st1021 ?_
      have z1021 : n0 ≤ T1021.heap.size := Nat.le_trans z1020 K1021.1
      have y1021 : s.heap.size ≤ T1021.heap.size := Nat.le_trans y1020 K1021.1
      have C1021 : CHr Z own_EL s.vm h0 s.vm T1021.heap := CHr.trans C1020 (CHr.keep K1021 (sfS sf1020_sx sf0) (own_inv C1020))
      have sf1021_sx : Safe Z own_EL s.vm T1021.heap sx := Safe.keep K1021 (sfS sf1020_sx sf0) (own_inv C1020) sf1020_sx
      have Kp1021 : Keep h0 T1021.heap [] := Keep.trans K1020 K1021 (kqS (Or.inr o_sx) kq0)
      have fO__1021 : Old Z n0 T1021.heap := fO__1020.keep K1021 (allS g_sx all0)
      have fE_sx_1021 : Exa Z T1021.heap sx "java/lang/String" := fE_sx_1020.keep K1021
      have hS_ : StrIs Z T1021.heap sx (own_cs p1 c0 c1) := by
        have e1 : own_cs p1 c0 c1 = [(nar .char c0), (nar .char c1)] := by rw [own_ch_nar hc0, own_ch_nar hc1]; exact (if_neg hp0).trans (if_neg hp1)
        rw [e1]
        exact ⟨_, _, _, _, fE_sx_1021, Fc1021, Fv1021, Av1021, own_cod rfl (fun c hc => ((own_up hp1021).1 c hc).2), (own_up hp1021).2, Nat.le_of_ble_eq_true rfl⟩
      refine goRetAH X1021 hx hlk hS0 y1021 (by rw [hh]; exact (CHr.trans C1021 (CHv.at X1021 hZ hEL (own_inv C1021)))) Bd.returns rfl rfl rfl (hb hby d1_53) ?_ (by decide) (by decide)
      exact ⟨sx, rfl, N1021, Kp1021, g_sx, o_sx, hS_⟩
theorem d6_0 : decode jdk_30_method_1_code 0 = .ok (.aload_n 0, 1) := by decide +kernel
theorem d6_1 : decode jdk_30_method_1_code 1 = .ok (.invokespecial 1, 3) := by decide +kernel
theorem d6_4 : decode jdk_30_method_1_code 4 = .ok (.return_, 1) := by decide +kernel
theorem pn_6 : plainName "java/lang/Record" = true := by first | (simp [plainName, overriddenIn]; done) | decide +kernel
theorem ef_6 (m : MethodId) (a1 : Addr) : entryFrame m #[(.ref a1)] 1 = mkF m 0 #[.val (.ref a1)] [] := by first | (simp [entryFrame, mkF, argsToLocals, Value.category]; done) | rfl
def Q6 (Z : State) (a1 : Addr) (h0 : Heap) (n0 : Nat) (v : Option Value) (h : Heap) (L : List Loc) : Prop := v = none ∧ Fr n0 L ∧ h = h0
set_option maxRecDepth 65536 in
set_option maxHeartbeats 40000000 in
theorem rm6 (l : Launch) (Z : State) (a0 : Array Value) (hw : ∀ d ∈ tables_1, d.before a0 Z = true) (ws : List Jvm.Cond) (a1 : Addr) (h0 : Heap) (n0 : Nat) (Z0 : n0 ≤ h0.size)  :
    MetFree l (⟨"java/lang/Record", "<init>", "()V"⟩ : MethodName) (head1 (Jvm.Cond.code (⟨"java/lang/Record", "<init>", "()V"⟩ : MethodName) jdk_30_method_1_code 1 none :: ws) ({ frames := 1, cells := 0, slots := 0, locals := 12 } : Room)) (fun a U => a = #[(.ref a1)] ∧ Z.Warmed39 U.vm ∧ U.heap = h0) (fun _ _ _ _ _ => True) (fun _ U o U' => ∃ v L, o = .returned v ∧ Q6 Z a1 h0 n0 v U'.heap L ∧ FrameEnd U o U' L ({ frames := 1, cells := 0, slots := 0, locals := 12 } : Room).cells ({ frames := 1, cells := 0, slots := 0, locals := 12 } : Room).slots) := by
  refine MetFree.of_bodySF (plainFor_of_name pn_6) hisR ?_
  intro p e s m args below meth c s₁ Bd hml0 hP hK
  obtain ⟨rfl, hZ, hh⟩ := hP
  have hx := Bd.exec
  have hby := Bd.bytes
  have hlk := Bd.notSynchronized
  have hml : c.maxLocals = 1 := hml0
  have hown : s.vm.findClass "java/lang/Record" = some m.cls := findClass_of_methodNamed Bd.named
  have hnm := (name_of_methodNamed Bd.named Bd.method).1
  have X0 : Stand p l e ({ frames := 1, cells := 0, slots := 0, locals := 12 } : Room) s m #[(.ref a1)] below meth c s₁ [] 0 0 := Stand.of_body Bd
  have e0 : s₁.heap = h0 := by rw [← hh, Bd.state]; rfl
  have N0 := Fr.nil n0
  show Goes p e below s FrameEnd 0 0 (Q6 Z a1 h0 n0) s₁ (entryFrame m #[(.ref a1)] 1)
  refine goEq (ef_6 m a1) ?_
  refine go (T' := s₁) (g' := (mkF m 1 #[.val (.ref a1)] [(.ref a1)])) (fun t kt => XS.aloadN X0.here hx rfl (hb hby d6_0) rfl rfl kt) ?_
  obtain ⟨T1022, X1022, e1022, st1022⟩ := initO X0 hx hZ hown (hw _ (List.mem_of_getElem? (i := 37) rfl)) (hw _ (List.mem_of_getElem? (i := 16) rfl)) (hw _ (List.mem_of_getElem? (i := 17) rfl)) e0 (g := (mkF m 1 #[.val (.ref a1)] [(.ref a1)])) rfl (by rw [hml]; rfl) rfl (hb hby d6_1) (by decide) (W := 0) (by show 2 * 0 + _ ≤ _; exact Nat.le_of_eq rfl) (by decide)
  refine go (T' := T1022) (g' := (mkF m 4 #[.val (.ref a1)] [])) st1022 ?_
  refine goRetV X1022 hx hlk Bd.returns (hb hby d6_4) ?_ (by decide) (by decide)
  rw [e1022]
  exact ⟨rfl, N0, rfl⟩
theorem d7_0 : decode jdk_31_method_11_code 0 = .ok (.aload_n 0, 1) := by decide +kernel
theorem d7_1 : decode jdk_31_method_11_code 1 = .ok (.ifnonnull 12, 3) := by decide +kernel
theorem d7_4 : decode jdk_31_method_11_code 4 = .ok (.new 84, 3) := by decide +kernel
theorem d7_7 : decode jdk_31_method_11_code 7 = .ok (.dup, 1) := by decide +kernel
theorem d7_8 : decode jdk_31_method_11_code 8 = .ok (.aload_n 1, 1) := by decide +kernel
theorem d7_9 : decode jdk_31_method_11_code 9 = .ok (.invokespecial 87, 3) := by decide +kernel
theorem d7_12 : decode jdk_31_method_11_code 12 = .ok (.athrow, 1) := by decide +kernel
theorem d7_13 : decode jdk_31_method_11_code 13 = .ok (.aload_n 0, 1) := by decide +kernel
theorem d7_14 : decode jdk_31_method_11_code 14 = .ok (.areturn, 1) := by decide +kernel
theorem pn_7 : plainName "java/util/Objects" = true := by first | (simp [plainName, overriddenIn]; done) | decide +kernel
theorem ef_7 (m : MethodId) (a1 : Addr) (a2 : Addr) : entryFrame m #[(.ref a1), (.ref a2)] 2 = mkF m 0 #[.val (.ref a1), .val (.ref a2)] [] := by first | (simp [entryFrame, mkF, argsToLocals, Value.category]; done) | rfl
def Q7 (Z : State) (a1 : Addr) (a2 : Addr) (h0 : Heap) (n0 : Nat) (v : Option Value) (h : Heap) (L : List Loc) : Prop := v = some (.ref a1) ∧ Fr n0 L ∧ h = h0
set_option maxRecDepth 65536 in
set_option maxHeartbeats 40000000 in
theorem rm7 (l : Launch) (Z : State) (a0 : Array Value) (hw : ∀ d ∈ tables_1, d.before a0 Z = true) (ws : List Jvm.Cond) (a1 : Addr) (a2 : Addr) (h0 : Heap) (n0 : Nat) (Z0 : n0 ≤ h0.size)  :
    MetFree l (⟨"java/util/Objects", "requireNonNull", "(Ljava/lang/Object;Ljava/lang/String;)Ljava/lang/Object;"⟩ : MethodName) (head1 (Jvm.Cond.code (⟨"java/util/Objects", "requireNonNull", "(Ljava/lang/Object;Ljava/lang/String;)Ljava/lang/Object;"⟩ : MethodName) jdk_31_method_11_code 2 (some (.object "java/lang/Object")) :: ws) ({ frames := 0, cells := 0, slots := 0, locals := 0 } : Room)) (fun a U => a = #[(.ref a1), (.ref a2)] ∧ Z.Warmed39 U.vm ∧ U.heap = h0) (fun _ _ _ _ _ => True) (fun _ U o U' => ∃ v L, o = .returned v ∧ Q7 Z a1 a2 h0 n0 v U'.heap L ∧ FrameEnd U o U' L ({ frames := 0, cells := 0, slots := 0, locals := 0 } : Room).cells ({ frames := 0, cells := 0, slots := 0, locals := 0 } : Room).slots) := by
  refine MetFree.of_bodySF (plainFor_of_name pn_7) hisR ?_
  intro p e s m args below meth c s₁ Bd hml0 hP hK
  obtain ⟨rfl, hZ, hh⟩ := hP
  have hx := Bd.exec
  have hby := Bd.bytes
  have hlk := Bd.notSynchronized
  have hml : c.maxLocals = 2 := hml0
  have hown : s.vm.findClass "java/util/Objects" = some m.cls := findClass_of_methodNamed Bd.named
  have hnm := (name_of_methodNamed Bd.named Bd.method).1
  have X0 : Stand p l e ({ frames := 0, cells := 0, slots := 0, locals := 0 } : Room) s m #[(.ref a1), (.ref a2)] below meth c s₁ [] 0 0 := Stand.of_body Bd
  have e0 : s₁.heap = h0 := by rw [← hh, Bd.state]; rfl
  have N0 := Fr.nil n0
  show Goes p e below s FrameEnd 0 0 (Q7 Z a1 a2 h0 n0) s₁ (entryFrame m #[(.ref a1), (.ref a2)] 2)
  refine goEq (ef_7 m a1 a2) ?_
  refine go (T' := s₁) (g' := (mkF m 1 #[.val (.ref a1), .val (.ref a2)] [(.ref a1)])) (fun t kt => XS.aloadN X0.here hx rfl (hb hby d7_0) rfl rfl kt) ?_
  refine go (T' := s₁) (g' := (mkF m 13 #[.val (.ref a1), .val (.ref a2)] [])) (fun t kt => XS.ifnonnullYes X0.here hx rfl (pc0 := 1) (pc' := 13) rfl (hb hby d7_1) rfl (by decide) (by decide) kt) ?_
  refine go (T' := s₁) (g' := (mkF m 14 #[.val (.ref a1), .val (.ref a2)] [(.ref a1)])) (fun t kt => XS.aloadN X0.here hx rfl (hb hby d7_13) rfl rfl kt) ?_
  refine goRetA X0 hx hlk Bd.returns rfl rfl rfl (hb hby d7_14) ?_ (by decide) (by decide)
  rw [e0]
  exact ⟨rfl, N0, rfl⟩
theorem d5_0 : decode prog_35_method_1_code 0 = .ok (.aload_n 0, 1) := by decide +kernel
theorem d5_1 : decode prog_35_method_1_code 1 = .ok (.invokespecial 1, 3) := by decide +kernel
theorem d5_4 : decode prog_35_method_1_code 4 = .ok (.aload_n 1, 1) := by decide +kernel
theorem d5_5 : decode prog_35_method_1_code 5 = .ok (.ldc 7, 2) := by decide +kernel
theorem d5_7 : decode prog_35_method_1_code 7 = .ok (.invokestatic 9, 3) := by decide +kernel
theorem d5_10 : decode prog_35_method_1_code 10 = .ok (.pop, 1) := by decide +kernel
theorem d5_11 : decode prog_35_method_1_code 11 = .ok (.aload_n 0, 1) := by decide +kernel
theorem d5_12 : decode prog_35_method_1_code 12 = .ok (.aload_n 1, 1) := by decide +kernel
theorem d5_13 : decode prog_35_method_1_code 13 = .ok (.putfield 15, 3) := by decide +kernel
theorem d5_16 : decode prog_35_method_1_code 16 = .ok (.aload_n 0, 1) := by decide +kernel
theorem d5_17 : decode prog_35_method_1_code 17 = .ok (.iload_n 2, 1) := by decide +kernel
theorem d5_18 : decode prog_35_method_1_code 18 = .ok (.putfield 20, 3) := by decide +kernel
theorem d5_21 : decode prog_35_method_1_code 21 = .ok (.return_, 1) := by decide +kernel
theorem pd_2 : parseMethodDescriptor "()V" = some ⟨[], none⟩ := by decide +kernel
theorem pd_3 : parseMethodDescriptor "(Ljava/lang/Object;Ljava/lang/String;)Ljava/lang/Object;" = some ⟨[(.object "java/lang/Object"), (.object "java/lang/String")], some (.object "java/lang/Object")⟩ := by decide +kernel
theorem pn_5 : plainName "com/example/offerloom/offerloom/book/PriceGroup" = true := by first | (simp [plainName, overriddenIn]; done) | decide +kernel
theorem ef_5 (m : MethodId) (a1 : Addr) (a2 : Addr) (p1 : Int32) : entryFrame m #[(.ref a1), (.ref a2), (.int p1)] 3 = mkF m 0 #[.val (.ref a1), .val (.ref a2), .val (.int p1)] [] := by first | (simp [entryFrame, mkF, argsToLocals, Value.category]; done) | rfl
def Q5 (Z : State) (a1 : Addr) (a2 : Addr) (p1 : Int32) (h0 : Heap) (n0 : Nat) (v : Option Value) (h : Heap) (L : List Loc) : Prop := v = none ∧ Fr n0 L ∧ Keep h0 h [a1] ∧ Fld Z h a1 "com/example/offerloom/offerloom/book/PriceGroup" "id" "Ljava/lang/String;" (.ref a2) ∧ Fld Z h a1 "com/example/offerloom/offerloom/book/PriceGroup" "priority" "I" (.int p1)
set_option maxRecDepth 65536 in
set_option maxHeartbeats 40000000 in
theorem rm5 (l : Launch) (Z : State) (a0 : Array Value) (hw : ∀ d ∈ tables_1, d.before a0 Z = true) (ws : List Jvm.Cond) (a1 : Addr) (a2 : Addr) (p1 : Int32) (h0 : Heap) (n0 : Nat) (Z0 : n0 ≤ h0.size) (g_a1 : n0 ≤ a1) (E1 : Exa Z h0 a1 "com/example/offerloom/offerloom/book/PriceGroup") (F1 : Fld Z h0 a1 "com/example/offerloom/offerloom/book/PriceGroup" "id" "Ljava/lang/String;" .null) (F2 : Fld Z h0 a1 "com/example/offerloom/offerloom/book/PriceGroup" "priority" "I" (.int (0 : Int32))) :
    MetFree l (⟨"com/example/offerloom/offerloom/book/PriceGroup", "<init>", "(Ljava/lang/String;I)V"⟩ : MethodName) (head1 (Jvm.Cond.code (⟨"com/example/offerloom/offerloom/book/PriceGroup", "<init>", "(Ljava/lang/String;I)V"⟩ : MethodName) prog_35_method_1_code 3 none :: ws) ({ frames := 2, cells := 2, slots := 12, locals := 24 } : Room)) (fun a U => a = #[(.ref a1), (.ref a2), (.int p1)] ∧ Z.Warmed39 U.vm ∧ U.heap = h0) (fun _ _ _ _ _ => True) (fun _ U o U' => ∃ v L, o = .returned v ∧ Q5 Z a1 a2 p1 h0 n0 v U'.heap L ∧ ReturnedEndW U o U' L ({ frames := 2, cells := 2, slots := 12, locals := 24 } : Room).cells ({ frames := 2, cells := 2, slots := 12, locals := 24 } : Room).slots) := by
  refine MetFree.of_bodySF (plainFor_of_name pn_5) hisR ?_
  intro p e s m args below meth c s₁ Bd hml0 hP hK
  obtain ⟨rfl, hZ, hh⟩ := hP
  have hx := Bd.exec
  have hby := Bd.bytes
  have hlk := Bd.notSynchronized
  have hml : c.maxLocals = 3 := hml0
  have hown : s.vm.findClass "com/example/offerloom/offerloom/book/PriceGroup" = some m.cls := findClass_of_methodNamed Bd.named
  have hnm := (name_of_methodNamed Bd.named Bd.method).1
  have X0 : Stand p l e ({ frames := 2, cells := 2, slots := 12, locals := 24 } : Room) (s.setVm s.vm) m #[(.ref a1), (.ref a2), (.int p1)] below meth c s₁ [] 0 0 := Stand.of_body Bd
  have hS0 : s.Since s.vm s.heap.size := (State.WarmedH.refl s).since _
  have hk0 : s.heap.size ≤ h0.size := Nat.le_of_eq (by rw [hh])
  have e0 : s₁.heap = h0 := by rw [← hh, Bd.state]; rfl
  have N0 := Fr.nil n0
  show Goes p e below s ReturnedEndW 2 12 (Q5 Z a1 a2 p1 h0 n0) s₁ (entryFrame m #[(.ref a1), (.ref a2), (.int p1)] 3)
  refine goEq (ef_5 m a1 a2 p1) ?_
  refine go (T' := s₁) (g' := (mkF m 1 #[.val (.ref a1), .val (.ref a2), .val (.int p1)] [(.ref a1)])) (fun t kt => XS.aloadN X0.here hx rfl (hb hby d5_0) rfl rfl kt) ?_
  obtain ⟨_, _, ⟨T1023, L1023, k1023, n1023⟩, -, X1023, ⟨Lc1023, hQ1023, l1023, y1023, z1023⟩, st1023⟩ := X0.specialBack hx (y := (⟨"java/lang/Record", "<init>", "()V"⟩ : MethodName)) rfl hown (mvT hZ (hw _ (List.mem_of_getElem? (i := 32) rfl))) (mvT hZ (hw _ (List.mem_of_getElem? (i := 33) rfl))) (mvT hZ (hw _ (List.mem_of_getElem? (i := 36) rfl))) (by decide) (backOf (W := 0) (rm6 l Z a0 hw [] a1 h0 n0 Z0) hZ (hw _ (List.mem_of_getElem? (i := 36) rfl)) (hw _ (List.mem_of_getElem? (i := 35) rfl)) (by decide) (by decide)) (g := (mkF m 1 #[.val (.ref a1), .val (.ref a2), .val (.int p1)] [(.ref a1)])) rfl (by rw [hml]; rfl) (Steps.refl _) (a := a1) (argsL := []) (rest := []) (lenOf pd_2 rfl) rfl (by show 2 * 0 + _ ≤ _; exact Nat.le_of_eq rfl) (hb hby d5_1) (fun _ _ => ⟨rfl, e0, (by decide : 0 + 0 ≤ _), (by decide : 0 + 0 ≤ _)⟩)
  dsimp only [Pt.U, Pt.locs, Pt.cells, Pt.slots] at X1023 l1023 y1023 z1023 st1023 hQ1023
  subst l1023 y1023 z1023
  obtain ⟨rfl, N1023q, e1023⟩ := hQ1023
  have N1023 := Fr.app N0 N1023q
  refine goV (T' := T1023) (g' := (mkF m 4 #[.val (.ref a1), .val (.ref a2), .val (.int p1)] [])) st1023 ?_
  refine go (T' := T1023) (g' := (mkF m 5 #[.val (.ref a1), .val (.ref a2), .val (.int p1)] [(.ref a2)])) (fun t kt => XS.aloadN X1023.here hx rfl (hb hby d5_4) rfl rfl kt) ?_
  obtain ⟨lx, T1024, h1024, k1024, X1024, e1024, E1024, hS1024, hk1024, hZ1024, hown1024, st1024⟩ := ldcS X1023 hx hZ hown (hw _ (List.mem_of_getElem? (i := 38) rfl)) (own_wS hw) e1023 hS0 hk0 (g := (mkF m 5 #[.val (.ref a1), .val (.ref a2), .val (.int p1)] [(.ref a2)])) rfl (hb hby d5_5) (n := 8) (by decide) (by decide) (by decide) (by decide)
  have z1024 : n0 ≤ h1024.size := Nat.le_trans Z0 E1024.1
  have fE_a1_1024 : Exa Z h1024 a1 "com/example/offerloom/offerloom/book/PriceGroup" := E1.ext E1024
  have fF_a1_id_1024 : Fld Z h1024 a1 "com/example/offerloom/offerloom/book/PriceGroup" "id" "Ljava/lang/String;" .null := F1.ext E1024
  have fF_a1_priority_1024 : Fld Z h1024 a1 "com/example/offerloom/offerloom/book/PriceGroup" "priority" "I" (.int (0 : Int32)) := F2.ext E1024
  have K1024 : Keep h0 h1024 [a1] := (Keep.refl h0 [a1]).ext E1024
  refine go (T' := T1024) (g' := (mkF m 7 #[.val (.ref a1), .val (.ref a2), .val (.int p1)] [(.ref lx), (.ref a2)])) st1024 ?_
  obtain ⟨_, _, ⟨T1025, L1025, k1025, n1025⟩, -, X1025, ⟨Lc1025, hQ1025, l1025, y1025, z1025⟩, st1025⟩ := Jvm.LawKit.callS X1024 hx (y := (⟨"java/util/Objects", "requireNonNull", "(Ljava/lang/Object;Ljava/lang/String;)Ljava/lang/Object;"⟩ : MethodName)) hown1024 (mvT hZ1024 (hw _ (List.mem_of_getElem? (i := 39) rfl))) (mvT hZ1024 (hw _ (List.mem_of_getElem? (i := 40) rfl))) (mvT hZ1024 (hw _ (List.mem_of_getElem? (i := 41) rfl))) (mvT hZ1024 (hw _ (List.mem_of_getElem? (i := 42) rfl))) (by decide) (backOf (W := 0) (rm7 l Z a0 hw [] a2 lx h1024 n0 z1024) hZ1024 (hw _ (List.mem_of_getElem? (i := 42) rfl)) (hw _ (List.mem_of_getElem? (i := 41) rfl)) (by decide) (by decide)) (g := (mkF m 7 #[.val (.ref a1), .val (.ref a2), .val (.int p1)] [(.ref lx), (.ref a2)])) rfl (by rw [hml]; rfl) (argsL := [(.ref a2), (.ref lx)]) (rest := []) (lenOf pd_3 rfl) rfl (by show 2 * 0 + _ ≤ _; exact Nat.le_of_eq rfl) (hb hby d5_7) (fun _ _ => ⟨rfl, e1024, (by decide : 2 + 0 ≤ _), (by decide : 12 + 0 ≤ _)⟩)
  dsimp only [Pt.U, Pt.locs, Pt.cells, Pt.slots] at X1025 l1025 y1025 z1025 st1025 hQ1025
  subst l1025 y1025 z1025
  obtain ⟨rfl, N1025q, e1025⟩ := hQ1025
  have N1025 := Fr.app N1023 N1025q
  refine go (T' := T1025) (g' := (mkF m 10 #[.val (.ref a1), .val (.ref a2), .val (.int p1)] [(.ref a2)])) st1025 ?_
  refine go (T' := T1025) (g' := (mkF m 11 #[.val (.ref a1), .val (.ref a2), .val (.int p1)] [])) (fun t kt => XS.pop X1025.here hx rfl (hb hby d5_10) rfl rfl kt) ?_
  refine go (T' := T1025) (g' := (mkF m 12 #[.val (.ref a1), .val (.ref a2), .val (.int p1)] [(.ref a1)])) (fun t kt => XS.aloadN X1025.here hx rfl (hb hby d5_11) rfl rfl kt) ?_
  refine go (T' := T1025) (g' := (mkF m 13 #[.val (.ref a1), .val (.ref a2), .val (.int p1)] [(.ref a2), (.ref a1)])) (fun t kt => XS.aloadN X1025.here hx rfl (hb hby d5_12) rfl rfl kt) ?_
  obtain ⟨T1026, h1026, X1026, e1026, W1026, st1026⟩ := putF X1025 hx hZ1024 hown1024 (host := "") (Or.inl (hw _ (List.mem_of_getElem? (i := 43) rfl))) Via.refl e1025 fF_a1_id_1024 fE_a1_1024 (Or.inr ⟨(hw _ (List.mem_of_getElem? (i := 44) rfl)), rfl, hnm⟩) (hw _ (List.mem_of_getElem? (i := 27) rfl)) (ty := (.object "java/lang/String")) (by decide) rfl rfl (g := (mkF m 13 #[.val (.ref a1), .val (.ref a2), .val (.int p1)] [(.ref a2), (.ref a1)])) rfl rfl (hb hby d5_13)
  have z1026 : n0 ≤ h1026.size := Nat.le_trans z1024 (Keep.of_wr W1026).1
  have y1026 : k1024 ≤ h1026.size := Nat.le_trans hk1024 (Keep.of_wr W1026).1
  have fE_a1_1026 : Exa Z h1026 a1 "com/example/offerloom/offerloom/book/PriceGroup" := fE_a1_1024.wr W1026
  have fF_a1_priority_1026 : Fld Z h1026 a1 "com/example/offerloom/offerloom/book/PriceGroup" "priority" "I" (.int (0 : Int32)) := fF_a1_priority_1024.other W1026 (Or.inr (slot_ne (Or.inr (hw _ (List.mem_of_getElem? (i := 46) rfl))) (Or.inr (hw _ (List.mem_of_getElem? (i := 44) rfl))) (by decide) (t := .int) (t' := (.object "java/lang/String")) (by decide) (by decide)))
  have Fw1026 : Fld Z h1026 a1 "com/example/offerloom/offerloom/book/PriceGroup" "id" "Ljava/lang/String;" (.ref a2) := fF_a1_id_1024.same W1026
  have K1026 : Keep h0 h1026 [a1] := K1024.wr W1026 (Or.inl (List.mem_of_getElem? (i := 0) rfl))
  have N1026 := Fr.snoc X1026 N1025 g_a1
  refine go (T' := T1026) (g' := (mkF m 16 #[.val (.ref a1), .val (.ref a2), .val (.int p1)] [])) st1026 ?_
  refine go (T' := T1026) (g' := (mkF m 17 #[.val (.ref a1), .val (.ref a2), .val (.int p1)] [(.ref a1)])) (fun t kt => XS.aloadN X1026.here hx rfl (hb hby d5_16) rfl rfl kt) ?_
  refine go (T' := T1026) (g' := (mkF m 18 #[.val (.ref a1), .val (.ref a2), .val (.int p1)] [(.int p1), (.ref a1)])) (fun t kt => XS.iloadN X1026.here hx rfl (hb hby d5_17) rfl kt) ?_
  obtain ⟨T1027, h1027, X1027, e1027, W1027, st1027⟩ := putF X1026 hx hZ1024 hown1024 (host := "") (Or.inl (hw _ (List.mem_of_getElem? (i := 45) rfl))) Via.refl e1026 fF_a1_priority_1026 fE_a1_1026 (Or.inr ⟨(hw _ (List.mem_of_getElem? (i := 46) rfl)), rfl, hnm⟩) (hw _ (List.mem_of_getElem? (i := 27) rfl)) (ty := .int) (by decide) rfl rfl (g := (mkF m 18 #[.val (.ref a1), .val (.ref a2), .val (.int p1)] [(.int p1), (.ref a1)])) rfl rfl (hb hby d5_18)
  have z1027 : n0 ≤ h1027.size := Nat.le_trans z1026 (Keep.of_wr W1027).1
  have y1027 : k1024 ≤ h1027.size := Nat.le_trans y1026 (Keep.of_wr W1027).1
  have fE_a1_1027 : Exa Z h1027 a1 "com/example/offerloom/offerloom/book/PriceGroup" := fE_a1_1026.wr W1027
  have fF_a1_id_1027 : Fld Z h1027 a1 "com/example/offerloom/offerloom/book/PriceGroup" "id" "Ljava/lang/String;" (.ref a2) := Fw1026.other W1027 (Or.inr (slot_ne (Or.inr (hw _ (List.mem_of_getElem? (i := 44) rfl))) (Or.inr (hw _ (List.mem_of_getElem? (i := 46) rfl))) (by decide) (t := (.object "java/lang/String")) (t' := .int) (by decide) (by decide)))
  have Fw1027 : Fld Z h1027 a1 "com/example/offerloom/offerloom/book/PriceGroup" "priority" "I" (.int p1) := fF_a1_priority_1026.same W1027
  have K1027 : Keep h0 h1027 [a1] := K1026.wr W1027 (Or.inl (List.mem_of_getElem? (i := 0) rfl))
  have N1027 := Fr.snoc X1027 N1026 g_a1
  refine go (T' := T1027) (g' := (mkF m 21 #[.val (.ref a1), .val (.ref a2), .val (.int p1)] [])) st1027 ?_
  refine goRetVW X1027 hx hlk hS1024 (by rw [e1027]; exact y1027) Bd.returns (hb hby d5_21) ?_ (by decide) (by decide)
  rw [e1027]
  exact ⟨rfl, N1027, K1027, fF_a1_id_1027, Fw1027⟩
theorem d8_0 : decode prog_35_method_3_code 0 = .ok (.aload_n 1, 1) := by decide +kernel
theorem d8_1 : decode prog_35_method_3_code 1 = .ok (.instanceof 16, 3) := by decide +kernel
theorem d8_4 : decode prog_35_method_3_code 4 = .ok (.ifCond .eq 37, 3) := by decide +kernel
theorem d8_7 : decode prog_35_method_3_code 7 = .ok (.aload_n 1, 1) := by decide +kernel
theorem d8_8 : decode prog_35_method_3_code 8 = .ok (.checkcast 16, 3) := by decide +kernel
theorem d8_11 : decode prog_35_method_3_code 11 = .ok (.astore_n 2, 1) := by decide +kernel
theorem d8_12 : decode prog_35_method_3_code 12 = .ok (.aload_n 0, 1) := by decide +kernel
theorem d8_13 : decode prog_35_method_3_code 13 = .ok (.getfield 15, 3) := by decide +kernel
theorem d8_16 : decode prog_35_method_3_code 16 = .ok (.aload_n 2, 1) := by decide +kernel
theorem d8_17 : decode prog_35_method_3_code 17 = .ok (.getfield 15, 3) := by decide +kernel
theorem d8_20 : decode prog_35_method_3_code 20 = .ok (.invokevirtual 38, 3) := by decide +kernel
theorem d8_23 : decode prog_35_method_3_code 23 = .ok (.ifCond .eq 18, 3) := by decide +kernel
theorem d8_26 : decode prog_35_method_3_code 26 = .ok (.aload_n 0, 1) := by decide +kernel
theorem d8_27 : decode prog_35_method_3_code 27 = .ok (.getfield 20, 3) := by decide +kernel
theorem d8_30 : decode prog_35_method_3_code 30 = .ok (.aload_n 2, 1) := by decide +kernel
theorem d8_31 : decode prog_35_method_3_code 31 = .ok (.getfield 20, 3) := by decide +kernel
theorem d8_34 : decode prog_35_method_3_code 34 = .ok (.if_icmp .ne 7, 3) := by decide +kernel
theorem d8_37 : decode prog_35_method_3_code 37 = .ok (.iconst 1, 1) := by decide +kernel
theorem d8_38 : decode prog_35_method_3_code 38 = .ok (.goto 4, 3) := by decide +kernel
theorem d8_41 : decode prog_35_method_3_code 41 = .ok (.iconst 0, 1) := by decide +kernel
theorem d8_42 : decode prog_35_method_3_code 42 = .ok (.ireturn, 1) := by decide +kernel
theorem ef_8n (m : MethodId) (a1 : Addr) : entryFrame m #[(.ref a1), .null] 3 = mkF m 0 #[.val (.ref a1), .val .null, .unset] [] := by first | (simp [entryFrame, mkF, argsToLocals, Value.category]; done) | rfl
def Q8n (Z : State) (a1 : Addr) (h0 : Heap) (n0 : Nat) (v : Option Value) (h : Heap) (L : List Loc) : Prop := v = some (.int 0) ∧ Fr n0 L ∧ h = h0
set_option maxRecDepth 65536 in
set_option maxHeartbeats 40000000 in
theorem rm8n (l : Launch) (Z : State) (a0 : Array Value) (hw : ∀ d ∈ tables_1, d.before a0 Z = true) (ws : List Jvm.Cond) (a1 : Addr) (h0 : Heap) (n0 : Nat) (Z0 : n0 ≤ h0.size)  :
    MetFree l (⟨"com/example/offerloom/offerloom/book/PriceGroup", "equals", "(Ljava/lang/Object;)Z"⟩ : MethodName) (head1 (Jvm.Cond.code (⟨"com/example/offerloom/offerloom/book/PriceGroup", "equals", "(Ljava/lang/Object;)Z"⟩ : MethodName) prog_35_method_3_code 3 (some .boolean) :: ws) ({ frames := 0, cells := 0, slots := 0, locals := 0 } : Room)) (fun a U => a = #[(.ref a1), .null] ∧ Z.Warmed39 U.vm ∧ U.heap = h0) (fun _ _ _ _ _ => True) (fun _ U o U' => ∃ v L, o = .returned v ∧ Q8n Z a1 h0 n0 v U'.heap L ∧ FrameEnd U o U' L ({ frames := 0, cells := 0, slots := 0, locals := 0 } : Room).cells ({ frames := 0, cells := 0, slots := 0, locals := 0 } : Room).slots) := by
  refine MetFree.of_bodySF (plainFor_of_name pn_5) hisR ?_
  intro p e s m args below meth c s₁ Bd hml0 hP hK
  obtain ⟨rfl, hZ, hh⟩ := hP
  have hx := Bd.exec
  have hby := Bd.bytes
  have hlk := Bd.notSynchronized
  have hml : c.maxLocals = 3 := hml0
  have hown : s.vm.findClass "com/example/offerloom/offerloom/book/PriceGroup" = some m.cls := findClass_of_methodNamed Bd.named
  have hnm := (name_of_methodNamed Bd.named Bd.method).1
  have X0 : Stand p l e ({ frames := 0, cells := 0, slots := 0, locals := 0 } : Room) s m #[(.ref a1), .null] below meth c s₁ [] 0 0 := Stand.of_body Bd
  have e0 : s₁.heap = h0 := by rw [← hh, Bd.state]; rfl
  have N0 := Fr.nil n0
  show Goes p e below s FrameEnd 0 0 (Q8n Z a1 h0 n0) s₁ (entryFrame m #[(.ref a1), .null] 3)
  refine goEq (ef_8n m a1) ?_
  refine go (T' := s₁) (g' := (mkF m 1 #[.val (.ref a1), .val .null, .unset] [.null])) (fun t kt => XS.aloadN X0.here hx rfl (hb hby d8_0) rfl rfl kt) ?_
  refine go (T' := s₁) (g' := (mkF m 4 #[.val (.ref a1), .val .null, .unset] [(.int (0 : Int32))])) (instanceofNull X0 hx (g := (mkF m 1 #[.val (.ref a1), .val .null, .unset] [.null])) rfl rfl (hb hby d8_1)) ?_
  refine go (T' := s₁) (g' := (mkF m 41 #[.val (.ref a1), .val .null, .unset] [])) (fun t kt => XS.ifYes X0.here hx rfl (pc0 := 4) (pc' := 41) rfl (hb hby d8_4) rfl ((if0 _ _).trans (teq (rfl : (0 : Int32) = 0)).1) (by decide) (by decide) kt) ?_
  refine go (T' := s₁) (g' := (mkF m 42 #[.val (.ref a1), .val .null, .unset] [(.int (0 : Int32))])) (fun t kt => XS.iconst X0.here hx rfl (hb hby d8_41) kt) ?_
  refine goRetN X0 hx hlk (t := .boolean) Bd.returns (by simp) (hb hby d8_42) ?_ (by decide) (by decide)
  rw [e0]
  exact ⟨rfl, N0, rfl⟩
theorem ef_8s (m : MethodId) (a1 : Addr) (a2 : Addr) : entryFrame m #[(.ref a1), (.ref a2)] 3 = mkF m 0 #[.val (.ref a1), .val (.ref a2), .unset] [] := by first | (simp [entryFrame, mkF, argsToLocals, Value.category]; done) | rfl
def Q8s (Z : State) (a1 : Addr) (a2 : Addr) (h0 : Heap) (n0 : Nat) (v : Option Value) (h : Heap) (L : List Loc) : Prop := v = some (.int 0) ∧ Fr n0 L ∧ h = h0
set_option maxRecDepth 65536 in
set_option maxHeartbeats 40000000 in
theorem rm8s (l : Launch) (Z : State) (a0 : Array Value) (hw : ∀ d ∈ tables_1, d.before a0 Z = true) (ws : List Jvm.Cond) (a1 : Addr) (a2 : Addr) (h0 : Heap) (n0 : Nat) (Z0 : n0 ≤ h0.size) (E2 : Exa Z h0 a2 "java/lang/String") :
    MetFree l (⟨"com/example/offerloom/offerloom/book/PriceGroup", "equals", "(Ljava/lang/Object;)Z"⟩ : MethodName) (head1 (Jvm.Cond.code (⟨"com/example/offerloom/offerloom/book/PriceGroup", "equals", "(Ljava/lang/Object;)Z"⟩ : MethodName) prog_35_method_3_code 3 (some .boolean) :: ws) ({ frames := 0, cells := 0, slots := 0, locals := 0 } : Room)) (fun a U => a = #[(.ref a1), (.ref a2)] ∧ Z.Warmed39 U.vm ∧ U.heap = h0) (fun _ _ _ _ _ => True) (fun _ U o U' => ∃ v L, o = .returned v ∧ Q8s Z a1 a2 h0 n0 v U'.heap L ∧ FrameEnd U o U' L ({ frames := 0, cells := 0, slots := 0, locals := 0 } : Room).cells ({ frames := 0, cells := 0, slots := 0, locals := 0 } : Room).slots) := by
  refine MetFree.of_bodySF (plainFor_of_name pn_5) hisR ?_
  intro p e s m args below meth c s₁ Bd hml0 hP hK
  obtain ⟨rfl, hZ, hh⟩ := hP
  have hx := Bd.exec
  have hby := Bd.bytes
  have hlk := Bd.notSynchronized
  have hml : c.maxLocals = 3 := hml0
  have hown : s.vm.findClass "com/example/offerloom/offerloom/book/PriceGroup" = some m.cls := findClass_of_methodNamed Bd.named
  have hnm := (name_of_methodNamed Bd.named Bd.method).1
  have X0 : Stand p l e ({ frames := 0, cells := 0, slots := 0, locals := 0 } : Room) s m #[(.ref a1), (.ref a2)] below meth c s₁ [] 0 0 := Stand.of_body Bd
  have e0 : s₁.heap = h0 := by rw [← hh, Bd.state]; rfl
  have N0 := Fr.nil n0
  show Goes p e below s FrameEnd 0 0 (Q8s Z a1 a2 h0 n0) s₁ (entryFrame m #[(.ref a1), (.ref a2)] 3)
  refine goEq (ef_8s m a1 a2) ?_
  refine go (T' := s₁) (g' := (mkF m 1 #[.val (.ref a1), .val (.ref a2), .unset] [(.ref a2)])) (fun t kt => XS.aloadN X0.here hx rfl (hb hby d8_0) rfl rfl kt) ?_
  obtain ⟨T1028, X1028, e1028, st1028⟩ := instNo X0 hx hZ hown (hw _ (List.mem_of_getElem? (i := 52) rfl)) e0 E2 (own_no hw) (g := (mkF m 1 #[.val (.ref a1), .val (.ref a2), .unset] [(.ref a2)])) rfl rfl (hb hby d8_1)
  refine go (T' := T1028) (g' := (mkF m 4 #[.val (.ref a1), .val (.ref a2), .unset] [(.int (0 : Int32))])) st1028 ?_
  refine go (T' := T1028) (g' := (mkF m 41 #[.val (.ref a1), .val (.ref a2), .unset] [])) (fun t kt => XS.ifYes X1028.here hx rfl (pc0 := 4) (pc' := 41) rfl (hb hby d8_4) rfl ((if0 _ _).trans (teq (rfl : (0 : Int32) = 0)).1) (by decide) (by decide) kt) ?_
  refine go (T' := T1028) (g' := (mkF m 42 #[.val (.ref a1), .val (.ref a2), .unset] [(.int (0 : Int32))])) (fun t kt => XS.iconst X1028.here hx rfl (hb hby d8_41) kt) ?_
  refine goRetN X1028 hx hlk (t := .boolean) Bd.returns (by simp) (hb hby d8_42) ?_ (by decide) (by decide)
  rw [e1028]
  exact ⟨rfl, N0, rfl⟩
theorem pd_4 : parseMethodDescriptor "(Ljava/lang/Object;)Z" = some ⟨[(.object "java/lang/Object")], some .boolean⟩ := by decide +kernel
theorem ef_8 (m : MethodId) (a1 : Addr) (a2 : Addr) : entryFrame m #[(.ref a1), (.ref a2)] 3 = mkF m 0 #[.val (.ref a1), .val (.ref a2), .unset] [] := by first | (simp [entryFrame, mkF, argsToLocals, Value.category]; done) | rfl
def Q8 (Z : State) (a1 : Addr) (a2 : Addr) (s1 : Addr) (s2 : Addr) (cs : List Int32) (ds : List Int32) (pp : Int32) (qq : Int32) (z : Int32) (h0 : Heap) (n0 : Nat) (v : Option Value) (h : Heap) (L : List Loc) : Prop := v = some (.int (own_b (cs = ds ∧ pp = qq))) ∧ Fr n0 L ∧ h = h0
set_option maxRecDepth 65536 in
set_option maxHeartbeats 40000000 in
theorem rm8 (l : Launch) (Z : State) (a0 : Array Value) (hw : ∀ d ∈ tables_1, d.before a0 Z = true) (ws : List Jvm.Cond) (a1 : Addr) (a2 : Addr) (s1 : Addr) (s2 : Addr) (cs : List Int32) (ds : List Int32) (pp : Int32) (qq : Int32) (z : Int32) (h0 : Heap) (n0 : Nat) (Z0 : n0 ≤ h0.size) (OO : Old Z n0 h0) (SC : Sta Z Z.heap "java/lang/String" "COMPACT_STRINGS" "Z" (.int z)) (hz : ¬ z = 0) (E1 : Exa Z h0 a1 "com/example/offerloom/offerloom/book/PriceGroup") (E2 : Exa Z h0 a2 "com/example/offerloom/offerloom/book/PriceGroup") (I1 : Fld Z h0 a1 "com/example/offerloom/offerloom/book/PriceGroup" "id" "Ljava/lang/String;" (.ref s1)) (P1 : Fld Z h0 a1 "com/example/offerloom/offerloom/book/PriceGroup" "priority" "I" (.int pp)) (I2 : Fld Z h0 a2 "com/example/offerloom/offerloom/book/PriceGroup" "id" "Ljava/lang/String;" (.ref s2)) (P2 : Fld Z h0 a2 "com/example/offerloom/offerloom/book/PriceGroup" "priority" "I" (.int qq)) (S1 : StrIs Z h0 s1 cs) (S2 : StrIs Z h0 s2 ds) :
    MetFree l (⟨"com/example/offerloom/offerloom/book/PriceGroup", "equals", "(Ljava/lang/Object;)Z"⟩ : MethodName) (head1 (Jvm.Cond.code (⟨"com/example/offerloom/offerloom/book/PriceGroup", "equals", "(Ljava/lang/Object;)Z"⟩ : MethodName) prog_35_method_3_code 3 (some .boolean) :: ws) ({ frames := 2, cells := 0, slots := 0, locals := 28 } : Room)) (fun a U => a = #[(.ref a1), (.ref a2)] ∧ Z.Warmed39 U.vm ∧ U.heap = h0) (fun _ _ _ _ _ => True) (fun _ U o U' => ∃ v L, o = .returned v ∧ Q8 Z a1 a2 s1 s2 cs ds pp qq z h0 n0 v U'.heap L ∧ FrameEnd U o U' L ({ frames := 2, cells := 0, slots := 0, locals := 28 } : Room).cells ({ frames := 2, cells := 0, slots := 0, locals := 28 } : Room).slots) := by
  refine MetFree.of_bodySF (plainFor_of_name pn_5) hisR ?_
  intro p e s m args below meth c s₁ Bd hml0 hP hK
  obtain ⟨rfl, hZ, hh⟩ := hP
  have hx := Bd.exec
  have hby := Bd.bytes
  have hlk := Bd.notSynchronized
  have hml : c.maxLocals = 3 := hml0
  have hown : s.vm.findClass "com/example/offerloom/offerloom/book/PriceGroup" = some m.cls := findClass_of_methodNamed Bd.named
  have hnm := (name_of_methodNamed Bd.named Bd.method).1
  have X0 : Stand p l e ({ frames := 2, cells := 0, slots := 0, locals := 28 } : Room) s m #[(.ref a1), (.ref a2)] below meth c s₁ [] 0 0 := Stand.of_body Bd
  have e0 : s₁.heap = h0 := by rw [← hh, Bd.state]; rfl
  have N0 := Fr.nil n0
  show Goes p e below s FrameEnd 0 0 (Q8 Z a1 a2 s1 s2 cs ds pp qq z h0 n0) s₁ (entryFrame m #[(.ref a1), (.ref a2)] 3)
  refine goEq (ef_8 m a1 a2) ?_
  obtain ⟨t1, kb1, M1, vs1, Es1, Cs1, Vs1, As1, hc1, hb1, hl1⟩ := S1
  obtain ⟨t2, kb2, M2, vs2, Es2, Cs2, Vs2, As2, hc2, hb2, hl2⟩ := S2
  refine go (T' := s₁) (g' := (mkF m 1 #[.val (.ref a1), .val (.ref a2), .unset] [(.ref a2)])) (fun t kt => XS.aloadN X0.here hx rfl (hb hby d8_0) rfl rfl kt) ?_
  obtain ⟨T1029, X1029, e1029, st1029⟩ := instY X0 hx hZ hown (hw _ (List.mem_of_getElem? (i := 52) rfl)) e0 (Ins.self E2) (g := (mkF m 1 #[.val (.ref a1), .val (.ref a2), .unset] [(.ref a2)])) rfl rfl (hb hby d8_1)
  refine go (T' := T1029) (g' := (mkF m 4 #[.val (.ref a1), .val (.ref a2), .unset] [(.int (1 : Int32))])) st1029 ?_
  refine go (T' := T1029) (g' := (mkF m 7 #[.val (.ref a1), .val (.ref a2), .unset] [])) (fun t kt => XS.ifNo X1029.here hx rfl (hb hby d8_4) rfl ((if0 _ _).trans (feq (by decide : ¬ (1 : Int32) = 0)).1) kt) ?_
  refine go (T' := T1029) (g' := (mkF m 8 #[.val (.ref a1), .val (.ref a2), .unset] [(.ref a2)])) (fun t kt => XS.aloadN X1029.here hx rfl (hb hby d8_7) rfl rfl kt) ?_
  obtain ⟨T1030, X1030, e1030, st1030⟩ := castY X1029 hx hZ hown (hw _ (List.mem_of_getElem? (i := 52) rfl)) e1029 (Ins.self E2) (g := (mkF m 8 #[.val (.ref a1), .val (.ref a2), .unset] [(.ref a2)])) rfl rfl (hb hby d8_8)
  refine go (T' := T1030) (g' := (mkF m 11 #[.val (.ref a1), .val (.ref a2), .unset] [(.ref a2)])) st1030 ?_
  refine go (T' := T1030) (g' := (mkF m 12 #[.val (.ref a1), .val (.ref a2), .val (.ref a2)] [])) (fun t kt => XS.astoreN X1030.here hx rfl (hb hby d8_11) rfl rfl (l' := #[.val (.ref a1), .val (.ref a2), .val (.ref a2)]) rfl kt) ?_
  refine go (T' := T1030) (g' := (mkF m 13 #[.val (.ref a1), .val (.ref a2), .val (.ref a2)] [(.ref a1)])) (fun t kt => XS.aloadN X1030.here hx rfl (hb hby d8_12) rfl rfl kt) ?_
  obtain ⟨T1031, X1031, e1031, st1031⟩ := getF X1030 hx hZ hown (host := "") (Or.inl (hw _ (List.mem_of_getElem? (i := 43) rfl))) Via.refl e1030 I1 (g := (mkF m 13 #[.val (.ref a1), .val (.ref a2), .val (.ref a2)] [(.ref a1)])) rfl rfl (hb hby d8_13)
  refine go (T' := T1031) (g' := (mkF m 16 #[.val (.ref a1), .val (.ref a2), .val (.ref a2)] [(.ref s1)])) st1031 ?_
  refine go (T' := T1031) (g' := (mkF m 17 #[.val (.ref a1), .val (.ref a2), .val (.ref a2)] [(.ref a2), (.ref s1)])) (fun t kt => XS.aloadN X1031.here hx rfl (hb hby d8_16) rfl rfl kt) ?_
  obtain ⟨T1032, X1032, e1032, st1032⟩ := getF X1031 hx hZ hown (host := "") (Or.inl (hw _ (List.mem_of_getElem? (i := 43) rfl))) Via.refl e1031 I2 (g := (mkF m 17 #[.val (.ref a1), .val (.ref a2), .val (.ref a2)] [(.ref a2), (.ref s1)])) rfl rfl (hb hby d8_17)
  refine go (T' := T1032) (g' := (mkF m 20 #[.val (.ref a1), .val (.ref a2), .val (.ref a2)] [(.ref s2), (.ref s1)])) st1032 ?_
  obtain ⟨cq1033, kq1033, q1033a, q1033b, q1033c⟩ := isOf hZ e1032 Es1
  obtain ⟨v1033, _, ⟨T1033, L1033, k1033, n1033⟩, -, X1033, ⟨Lc1033, hQ1033, l1033, y1033, z1033⟩, st1033⟩ := X1032.virtualBack hx (y := (⟨"java/lang/String", "equals", "(Ljava/lang/Object;)Z"⟩ : MethodName)) (z := (⟨"java/lang/String", "equals", "(Ljava/lang/Object;)Z"⟩ : MethodName)) hown (mvT hZ (hw _ (List.mem_of_getElem? (i := 54) rfl))) (mvT hZ (hw _ (List.mem_of_getElem? (i := 55) rfl))) (notFace_of_selects (args := #[]) (mvT hZ (hw _ (List.mem_of_getElem? (i := 57) rfl)))) (mvT hZ (hw _ (List.mem_of_getElem? (i := 57) rfl))) (mvT hZ (hw _ (List.mem_of_getElem? (i := 56) rfl))) (by decide) (StrChars.Road.eqW (W := 0) hZ (own_weq hw) (kI := 4) (hw _ (List.mem_of_getElem? (i := 5) rfl)) Es1 Vs1 Cs1 As1 hc1 hb1 hl1 Es2 Vs2 Cs2 As2 hc2 hb2 hl2 (SC.ext OO.2) hz (by decide) (by decide)) q1033a q1033c (g := (mkF m 20 #[.val (.ref a1), .val (.ref a2), .val (.ref a2)] [(.ref s2), (.ref s1)])) rfl (by rw [hml]; rfl) (Steps.refl _) (argsL := [(.ref s2)]) (rest := []) (lenOf pd_4 rfl) rfl (by show 2 * 0 + _ ≤ _; exact Nat.le_of_eq rfl) (hb hby d8_20) (fun _ _ => ⟨rfl, e1032, (by decide : 0 + 0 ≤ _), (by decide : 0 + 0 ≤ _)⟩)
  dsimp only [Pt.U, Pt.locs, Pt.cells, Pt.slots] at X1033 l1033 y1033 z1033 st1033 hQ1033
  subst l1033 y1033 z1033
  obtain ⟨hcase, rfl, e1033⟩ := hQ1033
  have N1033 := Fr.app N0 (Fr.nil n0)
  rcases hcase with ⟨hv_, hcd⟩ | ⟨hv_, hcd⟩
  · subst hv_
    refine goV (T' := T1033) (g' := (mkF m 23 #[.val (.ref a1), .val (.ref a2), .val (.ref a2)] [(.int (1 : Int32))])) st1033 ?_
    refine go (T' := T1033) (g' := (mkF m 26 #[.val (.ref a1), .val (.ref a2), .val (.ref a2)] [])) (fun t kt => XS.ifNo X1033.here hx rfl (hb hby d8_23) rfl ((if0 _ _).trans (feq (by decide : ¬ (1 : Int32) = 0)).1) kt) ?_
    refine go (T' := T1033) (g' := (mkF m 27 #[.val (.ref a1), .val (.ref a2), .val (.ref a2)] [(.ref a1)])) (fun t kt => XS.aloadN X1033.here hx rfl (hb hby d8_26) rfl rfl kt) ?_
    obtain ⟨T1034, X1034, e1034, st1034⟩ := getF X1033 hx hZ hown (host := "") (Or.inl (hw _ (List.mem_of_getElem? (i := 45) rfl))) Via.refl e1033 P1 (g := (mkF m 27 #[.val (.ref a1), .val (.ref a2), .val (.ref a2)] [(.ref a1)])) rfl rfl (hb hby d8_27)
    refine go (T' := T1034) (g' := (mkF m 30 #[.val (.ref a1), .val (.ref a2), .val (.ref a2)] [(.int pp)])) st1034 ?_
    refine go (T' := T1034) (g' := (mkF m 31 #[.val (.ref a1), .val (.ref a2), .val (.ref a2)] [(.ref a2), (.int pp)])) (fun t kt => XS.aloadN X1034.here hx rfl (hb hby d8_30) rfl rfl kt) ?_
    obtain ⟨T1035, X1035, e1035, st1035⟩ := getF X1034 hx hZ hown (host := "") (Or.inl (hw _ (List.mem_of_getElem? (i := 45) rfl))) Via.refl e1034 P2 (g := (mkF m 31 #[.val (.ref a1), .val (.ref a2), .val (.ref a2)] [(.ref a2), (.int pp)])) rfl rfl (hb hby d8_31)
    refine go (T' := T1035) (g' := (mkF m 34 #[.val (.ref a1), .val (.ref a2), .val (.ref a2)] [(.int qq), (.int pp)])) st1035 ?_
    by_cases hpq : pp = qq
    · refine go (T' := T1035) (g' := (mkF m 37 #[.val (.ref a1), .val (.ref a2), .val (.ref a2)] [])) (fun t kt => XS.icmpNo X1035.here hx rfl (hb hby d8_34) rfl (teq hpq).2 kt) ?_
      refine go (T' := T1035) (g' := (mkF m 38 #[.val (.ref a1), .val (.ref a2), .val (.ref a2)] [(.int (1 : Int32))])) (fun t kt => XS.iconst X1035.here hx rfl (hb hby d8_37) kt) ?_
      refine go (T' := T1035) (g' := (mkF m 42 #[.val (.ref a1), .val (.ref a2), .val (.ref a2)] [(.int (1 : Int32))])) (fun t kt => XS.goto X1035.here hx rfl (pc0 := 38) (pc' := 42) rfl (hb hby d8_38) (by decide) (by decide) kt) ?_
      refine goRetN X1035 hx hlk (t := .boolean) Bd.returns (by simp) (hb hby d8_42) ?_ (by decide) (by decide)
      rw [e1035]
      exact ⟨congrArg (fun x => some (Value.int x)) (own_b1 ⟨hcd, hpq⟩).symm, N1033, rfl⟩
    · refine go (T' := T1035) (g' := (mkF m 41 #[.val (.ref a1), .val (.ref a2), .val (.ref a2)] [])) (fun t kt => XS.icmpYes X1035.here hx rfl (pc0 := 34) (pc' := 41) rfl (hb hby d8_34) rfl (feq hpq).2 (by decide) (by decide) kt) ?_
      refine go (T' := T1035) (g' := (mkF m 42 #[.val (.ref a1), .val (.ref a2), .val (.ref a2)] [(.int (0 : Int32))])) (fun t kt => XS.iconst X1035.here hx rfl (hb hby d8_41) kt) ?_
      refine goRetN X1035 hx hlk (t := .boolean) Bd.returns (by simp) (hb hby d8_42) ?_ (by decide) (by decide)
      rw [e1035]
      exact ⟨congrArg (fun x => some (Value.int x)) (own_b0 (fun k => hpq k.2)).symm, N1033, rfl⟩
  · subst hv_
    refine goV (T' := T1033) (g' := (mkF m 23 #[.val (.ref a1), .val (.ref a2), .val (.ref a2)] [(.int (0 : Int32))])) st1033 ?_
    refine go (T' := T1033) (g' := (mkF m 41 #[.val (.ref a1), .val (.ref a2), .val (.ref a2)] [])) (fun t kt => XS.ifYes X1033.here hx rfl (pc0 := 23) (pc' := 41) rfl (hb hby d8_23) rfl ((if0 _ _).trans (teq (rfl : (0 : Int32) = 0)).1) (by decide) (by decide) kt) ?_
    refine go (T' := T1033) (g' := (mkF m 42 #[.val (.ref a1), .val (.ref a2), .val (.ref a2)] [(.int (0 : Int32))])) (fun t kt => XS.iconst X1033.here hx rfl (hb hby d8_41) kt) ?_
    refine goRetN X1033 hx hlk (t := .boolean) Bd.returns (by simp) (hb hby d8_42) ?_ (by decide) (by decide)
    rw [e1033]
    exact ⟨congrArg (fun x => some (Value.int x)) (own_b0 (fun k => hcd k.1)).symm, N1033, rfl⟩
theorem pd_5 : parseMethodDescriptor "(ICC)Ljava/lang/String;" = some ⟨[.int, .char, .char], some (.object "java/lang/String")⟩ := by decide +kernel
theorem pd_6 : parseMethodDescriptor "(Ljava/lang/String;I)V" = some ⟨[(.object "java/lang/String"), .int], none⟩ := by decide +kernel
theorem ef_0 (m : MethodId) (p1 : Int32) (p2 : Int32) (p3 : Int32) (p4 : Int32) (p5 : Int32) : entryFrame m #[(.int p1), (.int p2), (.int p3), (.int p4), (.int p5)] maxLocals = mkF m 0 #[.val (.int p1), .val (.int p2), .val (.int p3), .val (.int p4), .val (.int p5), .unset, .unset, .unset, .unset, .unset, .unset, .unset, .unset, .unset, .unset, .unset, .unset, .unset, .unset, .unset] [] := by first | (simp [entryFrame, mkF, argsToLocals, Value.category, maxLocals]; done) | rfl
def Q0 (Z : State) (p1 : Int32) (p2 : Int32) (p3 : Int32) (p4 : Int32) (p5 : Int32) (z : Int32) (h0 : Heap) (n0 : Nat) (v : Option Value) (h : Heap) (L : List Loc) : Prop := v = some (.int 1) ∧ Fr n0 L
set_option maxRecDepth 65536 in
set_option maxHeartbeats 40000000 in
theorem rm0 (l : Launch) (Z : State) (a0 : Array Value) (hw : ∀ d ∈ tables_1, d.before a0 Z = true) (ws : List Jvm.Cond) (p1 : Int32) (p2 : Int32) (p3 : Int32) (p4 : Int32) (p5 : Int32) (z : Int32) (h0 : Heap) (n0 : Nat) (Z0 : n0 ≤ h0.size) (OO : Old Z n0 h0) (SC : Sta Z Z.heap "java/lang/String" "COMPACT_STRINGS" "Z" (.int z)) (hz : ¬ z = 0) :
    MetFree l x (head1 (Jvm.Cond.code x code maxLocals ret :: ws) room_1) (fun a U => a = #[(.int p1), (.int p2), (.int p3), (.int p4), (.int p5)] ∧ Z.Warmed39 U.vm ∧ U.heap = h0 ∧ CHv Z own_EL U.vm h0) (fun _ _ _ _ _ => True) (fun _ U o U' => ∃ v L, o = .returned v ∧ Q0 Z p1 p2 p3 p4 p5 z h0 n0 v U'.heap L ∧ ReturnedEndW U o U' L 18 52) := by
  refine MetFree.of_bodySF (plainFor_of_name pn_1) hisR ?_
  intro p e s m args below meth c s₁ Bd hml0 hP hK
  obtain ⟨rfl, hZ, hh, hch⟩ := hP
  have hx := Bd.exec
  have hby := Bd.bytes
  have hlk := Bd.notSynchronized
  have hml : c.maxLocals = 20 := hml0
  have hown : s.vm.findClass "com/example/offerloom/offerloom/book/PriceGroupEqualsPinLaw" = some m.cls := findClass_of_methodNamed Bd.named
  have hnm := (name_of_methodNamed Bd.named Bd.method).1
  have X0 : Stand p l e room_1 (s.setVm s.vm) m #[(.int p1), (.int p2), (.int p3), (.int p4), (.int p5)] below meth c s₁ [] 0 0 := Stand.of_body Bd
  have hS0 : s.Since s.vm s.heap.size := (State.WarmedH.refl s).since _
  have hk0 : s.heap.size ≤ h0.size := Nat.le_of_eq (by rw [hh])
  have hEL := own_EW hw
  have CH0 : CHr Z own_EL s.vm h0 s.vm h0 := CHr.refl hch
  have e0 : s₁.heap = h0 := by rw [← hh, Bd.state]; rfl
  have N0 := Fr.nil n0
  show Goes p e below s ReturnedEndW 18 52 (Q0 Z p1 p2 p3 p4 p5 z h0 n0) s₁ (entryFrame m #[(.int p1), (.int p2), (.int p3), (.int p4), (.int p5)] maxLocals)
  refine goEq (ef_0 m p1 p2 p3 p4 p5) ?_
  refine go (T' := s₁) (g' := (mkF m 2 #[.val (.int p1), .val (.int p2), .val (.int p3), .val (.int p4), .val (.int p5), .unset, .unset, .unset, .unset, .unset, .unset, .unset, .unset, .unset, .unset, .unset, .unset, .unset, .unset, .unset] [(.int p5)])) (fun t kt => XS.iload X0.here hx rfl (hb hby at_0) rfl kt) ?_
  refine go (T' := s₁) (g' := (mkF m 3 #[.val (.int p1), .val (.int p2), .val (.int p3), .val (.int p4), .val (.int p5), .unset, .unset, .unset, .unset, .unset, .unset, .unset, .unset, .unset, .unset, .unset, .unset, .unset, .unset, .unset] [(.int (3 : Int32)), (.int p5)])) (fun t kt => XS.iconst X0.here hx rfl (hb hby at_2) kt) ?_
  refine go (T' := s₁) (g' := (mkF m 4 #[.val (.int p1), .val (.int p2), .val (.int p3), .val (.int p4), .val (.int p5), .unset, .unset, .unset, .unset, .unset, .unset, .unset, .unset, .unset, .unset, .unset, .unset, .unset, .unset, .unset] [(.int (p5 &&& (3 : Int32)))])) (fun t kt => XS.iand X0.here hx rfl (hb hby at_3) rfl kt) ?_
  refine go (T' := s₁) (g' := (mkF m 5 #[.val (.int p1), .val (.int p2), .val (.int p3), .val (.int p4), .val (.int p5), .unset, .unset, .unset, .unset, .unset, .unset, .unset, .unset, .unset, .unset, .unset, .unset, .unset, .unset, .unset] [(.int (3 : Int32)), (.int (p5 &&& (3 : Int32)))])) (fun t kt => XS.iconst X0.here hx rfl (hb hby at_4) kt) ?_
  refine go (T' := s₁) (g' := (mkF m 6 #[.val (.int p1), .val (.int p2), .val (.int p3), .val (.int p4), .val (.int p5), .unset, .unset, .unset, .unset, .unset, .unset, .unset, .unset, .unset, .unset, .unset, .unset, .unset, .unset, .unset] [(.int ((p5 &&& (3 : Int32)) % (3 : Int32)))])) (fun t kt => iremM X0 hx rfl (hb hby at_5) rfl (by decide) kt) ?_
  obtain ⟨la, e_la⟩ : ∃ z, z = ((p5 &&& (3 : Int32)) % (3 : Int32)) := ⟨_, rfl⟩
  refine goEq (g' := (mkF m 6 #[.val (.int p1), .val (.int p2), .val (.int p3), .val (.int p4), .val (.int p5), .unset, .unset, .unset, .unset, .unset, .unset, .unset, .unset, .unset, .unset, .unset, .unset, .unset, .unset, .unset] [(.int la)])) (by rw [e_la]) ?_
  have hla : own_t la := by rw [e_la]; exact own_rem3 p5
  refine go (T' := s₁) (g' := (mkF m 8 #[.val (.int p1), .val (.int p2), .val (.int p3), .val (.int p4), .val (.int p5), .val (.int la), .unset, .unset, .unset, .unset, .unset, .unset, .unset, .unset, .unset, .unset, .unset, .unset, .unset, .unset] [])) (fun t kt => XS.istore X0.here hx rfl (hb hby at_6) rfl (l' := #[.val (.int p1), .val (.int p2), .val (.int p3), .val (.int p4), .val (.int p5), .val (.int la), .unset, .unset, .unset, .unset, .unset, .unset, .unset, .unset, .unset, .unset, .unset, .unset, .unset, .unset]) rfl kt) ?_
  refine go (T' := s₁) (g' := (mkF m 9 #[.val (.int p1), .val (.int p2), .val (.int p3), .val (.int p4), .val (.int p5), .val (.int la), .unset, .unset, .unset, .unset, .unset, .unset, .unset, .unset, .unset, .unset, .unset, .unset, .unset, .unset] [(.int p1)])) (fun t kt => XS.iloadN X0.here hx rfl (hb hby at_8) rfl kt) ?_
  refine go (T' := s₁) (g' := (mkF m 12 #[.val (.int p1), .val (.int p2), .val (.int p3), .val (.int p4), .val (.int p5), .val (.int la), .unset, .unset, .unset, .unset, .unset, .unset, .unset, .unset, .unset, .unset, .unset, .unset, .unset, .unset] [(.int (255 : Int32)), (.int p1)])) (fun t kt => XS.sipush X0.here hx rfl (hb hby at_9) kt) ?_
  refine go (T' := s₁) (g' := (mkF m 13 #[.val (.int p1), .val (.int p2), .val (.int p3), .val (.int p4), .val (.int p5), .val (.int la), .unset, .unset, .unset, .unset, .unset, .unset, .unset, .unset, .unset, .unset, .unset, .unset, .unset, .unset] [(.int (p1 &&& (255 : Int32)))])) (fun t kt => XS.iand X0.here hx rfl (hb hby at_12) rfl kt) ?_
  refine go (T' := s₁) (g' := (mkF m 14 #[.val (.int p1), .val (.int p2), .val (.int p3), .val (.int p4), .val (.int p5), .val (.int la), .unset, .unset, .unset, .unset, .unset, .unset, .unset, .unset, .unset, .unset, .unset, .unset, .unset, .unset] [(.int ((p1 &&& (255 : Int32)).toUInt32.toUInt16.toUInt32.toInt32))])) (fun t kt => XS.i2c X0.here hx rfl (hb hby at_13) rfl kt) ?_
  obtain ⟨x0, e_x0⟩ : ∃ z, z = ((p1 &&& (255 : Int32)).toUInt32.toUInt16.toUInt32.toInt32) := ⟨_, rfl⟩
  refine goEq (g' := (mkF m 14 #[.val (.int p1), .val (.int p2), .val (.int p3), .val (.int p4), .val (.int p5), .val (.int la), .unset, .unset, .unset, .unset, .unset, .unset, .unset, .unset, .unset, .unset, .unset, .unset, .unset, .unset] [(.int x0)])) (by rw [e_x0]) ?_
  have hx0 : own_ch x0 := by rw [e_x0]; exact own_ch_i2c _
  refine go (T' := s₁) (g' := (mkF m 16 #[.val (.int p1), .val (.int p2), .val (.int p3), .val (.int p4), .val (.int p5), .val (.int la), .val (.int x0), .unset, .unset, .unset, .unset, .unset, .unset, .unset, .unset, .unset, .unset, .unset, .unset, .unset] [])) (fun t kt => XS.istore X0.here hx rfl (hb hby at_14) rfl (l' := #[.val (.int p1), .val (.int p2), .val (.int p3), .val (.int p4), .val (.int p5), .val (.int la), .val (.int x0), .unset, .unset, .unset, .unset, .unset, .unset, .unset, .unset, .unset, .unset, .unset, .unset, .unset]) rfl kt) ?_
  refine go (T' := s₁) (g' := (mkF m 17 #[.val (.int p1), .val (.int p2), .val (.int p3), .val (.int p4), .val (.int p5), .val (.int la), .val (.int x0), .unset, .unset, .unset, .unset, .unset, .unset, .unset, .unset, .unset, .unset, .unset, .unset, .unset] [(.int p1)])) (fun t kt => XS.iloadN X0.here hx rfl (hb hby at_16) rfl kt) ?_
  refine go (T' := s₁) (g' := (mkF m 19 #[.val (.int p1), .val (.int p2), .val (.int p3), .val (.int p4), .val (.int p5), .val (.int la), .val (.int x0), .unset, .unset, .unset, .unset, .unset, .unset, .unset, .unset, .unset, .unset, .unset, .unset, .unset] [(.int (8 : Int32)), (.int p1)])) (fun t kt => XS.bipush X0.here hx rfl (hb hby at_17) kt) ?_
  refine go (T' := s₁) (g' := (mkF m 20 #[.val (.int p1), .val (.int p2), .val (.int p3), .val (.int p4), .val (.int p5), .val (.int la), .val (.int x0), .unset, .unset, .unset, .unset, .unset, .unset, .unset, .unset, .unset, .unset, .unset, .unset, .unset] [(.int ((p1.toUInt32 >>> ((8 : Int32) &&& 31).toUInt32).toInt32))])) (fun t kt => XS.iushr X0.here hx rfl (hb hby at_19) rfl kt) ?_
  refine go (T' := s₁) (g' := (mkF m 23 #[.val (.int p1), .val (.int p2), .val (.int p3), .val (.int p4), .val (.int p5), .val (.int la), .val (.int x0), .unset, .unset, .unset, .unset, .unset, .unset, .unset, .unset, .unset, .unset, .unset, .unset, .unset] [(.int (255 : Int32)), (.int ((p1.toUInt32 >>> ((8 : Int32) &&& 31).toUInt32).toInt32))])) (fun t kt => XS.sipush X0.here hx rfl (hb hby at_20) kt) ?_
  refine go (T' := s₁) (g' := (mkF m 24 #[.val (.int p1), .val (.int p2), .val (.int p3), .val (.int p4), .val (.int p5), .val (.int la), .val (.int x0), .unset, .unset, .unset, .unset, .unset, .unset, .unset, .unset, .unset, .unset, .unset, .unset, .unset] [(.int (((p1.toUInt32 >>> ((8 : Int32) &&& 31).toUInt32).toInt32) &&& (255 : Int32)))])) (fun t kt => XS.iand X0.here hx rfl (hb hby at_23) rfl kt) ?_
  refine go (T' := s₁) (g' := (mkF m 25 #[.val (.int p1), .val (.int p2), .val (.int p3), .val (.int p4), .val (.int p5), .val (.int la), .val (.int x0), .unset, .unset, .unset, .unset, .unset, .unset, .unset, .unset, .unset, .unset, .unset, .unset, .unset] [(.int ((((p1.toUInt32 >>> ((8 : Int32) &&& 31).toUInt32).toInt32) &&& (255 : Int32)).toUInt32.toUInt16.toUInt32.toInt32))])) (fun t kt => XS.i2c X0.here hx rfl (hb hby at_24) rfl kt) ?_
  obtain ⟨x1, e_x1⟩ : ∃ z, z = ((((p1.toUInt32 >>> ((8 : Int32) &&& 31).toUInt32).toInt32) &&& (255 : Int32)).toUInt32.toUInt16.toUInt32.toInt32) := ⟨_, rfl⟩
  refine goEq (g' := (mkF m 25 #[.val (.int p1), .val (.int p2), .val (.int p3), .val (.int p4), .val (.int p5), .val (.int la), .val (.int x0), .unset, .unset, .unset, .unset, .unset, .unset, .unset, .unset, .unset, .unset, .unset, .unset, .unset] [(.int x1)])) (by rw [e_x1]) ?_
  have hx1 : own_ch x1 := by rw [e_x1]; exact own_ch_i2c _
  refine go (T' := s₁) (g' := (mkF m 27 #[.val (.int p1), .val (.int p2), .val (.int p3), .val (.int p4), .val (.int p5), .val (.int la), .val (.int x0), .val (.int x1), .unset, .unset, .unset, .unset, .unset, .unset, .unset, .unset, .unset, .unset, .unset, .unset] [])) (fun t kt => XS.istore X0.here hx rfl (hb hby at_25) rfl (l' := #[.val (.int p1), .val (.int p2), .val (.int p3), .val (.int p4), .val (.int p5), .val (.int la), .val (.int x0), .val (.int x1), .unset, .unset, .unset, .unset, .unset, .unset, .unset, .unset, .unset, .unset, .unset, .unset]) rfl kt) ?_
  refine go (T' := s₁) (g' := (mkF m 29 #[.val (.int p1), .val (.int p2), .val (.int p3), .val (.int p4), .val (.int p5), .val (.int la), .val (.int x0), .val (.int x1), .unset, .unset, .unset, .unset, .unset, .unset, .unset, .unset, .unset, .unset, .unset, .unset] [(.int p5)])) (fun t kt => XS.iload X0.here hx rfl (hb hby at_27) rfl kt) ?_
  refine go (T' := s₁) (g' := (mkF m 30 #[.val (.int p1), .val (.int p2), .val (.int p3), .val (.int p4), .val (.int p5), .val (.int la), .val (.int x0), .val (.int x1), .unset, .unset, .unset, .unset, .unset, .unset, .unset, .unset, .unset, .unset, .unset, .unset] [(.int (4 : Int32)), (.int p5)])) (fun t kt => XS.iconst X0.here hx rfl (hb hby at_29) kt) ?_
  refine go (T' := s₁) (g' := (mkF m 31 #[.val (.int p1), .val (.int p2), .val (.int p3), .val (.int p4), .val (.int p5), .val (.int la), .val (.int x0), .val (.int x1), .unset, .unset, .unset, .unset, .unset, .unset, .unset, .unset, .unset, .unset, .unset, .unset] [(.int ((p5.toUInt32 >>> ((4 : Int32) &&& 31).toUInt32).toInt32))])) (fun t kt => XS.iushr X0.here hx rfl (hb hby at_30) rfl kt) ?_
  refine go (T' := s₁) (g' := (mkF m 32 #[.val (.int p1), .val (.int p2), .val (.int p3), .val (.int p4), .val (.int p5), .val (.int la), .val (.int x0), .val (.int x1), .unset, .unset, .unset, .unset, .unset, .unset, .unset, .unset, .unset, .unset, .unset, .unset] [(.int (1 : Int32)), (.int ((p5.toUInt32 >>> ((4 : Int32) &&& 31).toUInt32).toInt32))])) (fun t kt => XS.iconst X0.here hx rfl (hb hby at_31) kt) ?_
  refine go (T' := s₁) (g' := (mkF m 33 #[.val (.int p1), .val (.int p2), .val (.int p3), .val (.int p4), .val (.int p5), .val (.int la), .val (.int x0), .val (.int x1), .unset, .unset, .unset, .unset, .unset, .unset, .unset, .unset, .unset, .unset, .unset, .unset] [(.int (((p5.toUInt32 >>> ((4 : Int32) &&& 31).toUInt32).toInt32) &&& (1 : Int32)))])) (fun t kt => XS.iand X0.here hx rfl (hb hby at_32) rfl kt) ?_
  obtain ⟨sm, e_sm⟩ : ∃ u, u = (if (((p5.toUInt32 >>> ((4 : Int32) &&& 31).toUInt32).toInt32) &&& (1 : Int32)) = 0 then (0 : Int32) else 1) := ⟨_, rfl⟩
  refine goVia (T₂ := s₁) (g₂ := (mkF m 41 #[.val (.int p1), .val (.int p2), .val (.int p3), .val (.int p4), .val (.int p5), .val (.int la), .val (.int x0), .val (.int x1), .unset, .unset, .unset, .unset, .unset, .unset, .unset, .unset, .unset, .unset, .unset, .unset] [(.int sm)])) (fun kV => ?_) ?_
  · by_cases hf1 : (((p5.toUInt32 >>> ((4 : Int32) &&& 31).toUInt32).toInt32) &&& (1 : Int32)) = (0 : Int32)
    · refine go (T' := s₁) (g' := (mkF m 40 #[.val (.int p1), .val (.int p2), .val (.int p3), .val (.int p4), .val (.int p5), .val (.int la), .val (.int x0), .val (.int x1), .unset, .unset, .unset, .unset, .unset, .unset, .unset, .unset, .unset, .unset, .unset, .unset] [])) (fun t kt => XS.ifYes X0.here hx rfl (pc0 := 33) (pc' := 40) rfl (hb hby at_33) rfl ((if0 _ _).trans (teq hf1).1) (by decide) (by decide) kt) ?_
      refine go (T' := s₁) (g' := (mkF m 41 #[.val (.int p1), .val (.int p2), .val (.int p3), .val (.int p4), .val (.int p5), .val (.int la), .val (.int x0), .val (.int x1), .unset, .unset, .unset, .unset, .unset, .unset, .unset, .unset, .unset, .unset, .unset, .unset] [(.int (0 : Int32))])) (fun t kt => XS.iconst X0.here hx rfl (hb hby at_40) kt) ?_
      exact goEq (by rw [e_sm, if_pos hf1]) kV
    · refine go (T' := s₁) (g' := (mkF m 36 #[.val (.int p1), .val (.int p2), .val (.int p3), .val (.int p4), .val (.int p5), .val (.int la), .val (.int x0), .val (.int x1), .unset, .unset, .unset, .unset, .unset, .unset, .unset, .unset, .unset, .unset, .unset, .unset] [])) (fun t kt => XS.ifNo X0.here hx rfl (hb hby at_33) rfl ((if0 _ _).trans (feq hf1).1) kt) ?_
      refine go (T' := s₁) (g' := (mkF m 37 #[.val (.int p1), .val (.int p2), .val (.int p3), .val (.int p4), .val (.int p5), .val (.int la), .val (.int x0), .val (.int x1), .unset, .unset, .unset, .unset, .unset, .unset, .unset, .unset, .unset, .unset, .unset, .unset] [(.int (1 : Int32))])) (fun t kt => XS.iconst X0.here hx rfl (hb hby at_36) kt) ?_
      refine go (T' := s₁) (g' := (mkF m 41 #[.val (.int p1), .val (.int p2), .val (.int p3), .val (.int p4), .val (.int p5), .val (.int la), .val (.int x0), .val (.int x1), .unset, .unset, .unset, .unset, .unset, .unset, .unset, .unset, .unset, .unset, .unset, .unset] [(.int (1 : Int32))])) (fun t kt => XS.goto X0.here hx rfl (pc0 := 37) (pc' := 41) rfl (hb hby at_37) (by decide) (by decide) kt) ?_
      exact goEq (by rw [e_sm, if_neg hf1]) kV
  · refine go (T' := s₁) (g' := (mkF m 43 #[.val (.int p1), .val (.int p2), .val (.int p3), .val (.int p4), .val (.int p5), .val (.int la), .val (.int x0), .val (.int x1), .val (.int sm), .unset, .unset, .unset, .unset, .unset, .unset, .unset, .unset, .unset, .unset, .unset] [])) (fun t kt => XS.istore X0.here hx rfl (hb hby at_41) rfl (l' := #[.val (.int p1), .val (.int p2), .val (.int p3), .val (.int p4), .val (.int p5), .val (.int la), .val (.int x0), .val (.int x1), .val (.int sm), .unset, .unset, .unset, .unset, .unset, .unset, .unset, .unset, .unset, .unset, .unset]) rfl kt) ?_
    refine go (T' := s₁) (g' := (mkF m 45 #[.val (.int p1), .val (.int p2), .val (.int p3), .val (.int p4), .val (.int p5), .val (.int la), .val (.int x0), .val (.int x1), .val (.int sm), .unset, .unset, .unset, .unset, .unset, .unset, .unset, .unset, .unset, .unset, .unset] [(.int sm)])) (fun t kt => XS.iload X0.here hx rfl (hb hby at_43) rfl kt) ?_
    obtain ⟨lb, e_lb⟩ : ∃ u, u = (if sm = 0 then ((((p5.toUInt32 >>> ((2 : Int32) &&& 31).toUInt32).toInt32) &&& (3 : Int32)) % (3 : Int32)) else la) := ⟨_, rfl⟩
    have hlb : own_t lb := by
      rw [e_lb]; split
      · exact own_rem3 _
      · exact hla
    refine goVia (T₂ := s₁) (g₂ := (mkF m 61 #[.val (.int p1), .val (.int p2), .val (.int p3), .val (.int p4), .val (.int p5), .val (.int la), .val (.int x0), .val (.int x1), .val (.int sm), .unset, .unset, .unset, .unset, .unset, .unset, .unset, .unset, .unset, .unset, .unset] [(.int lb)])) (fun kV => ?_) ?_
    · by_cases hf2 : sm = (0 : Int32)
      · refine go (T' := s₁) (g' := (mkF m 53 #[.val (.int p1), .val (.int p2), .val (.int p3), .val (.int p4), .val (.int p5), .val (.int la), .val (.int x0), .val (.int x1), .val (.int sm), .unset, .unset, .unset, .unset, .unset, .unset, .unset, .unset, .unset, .unset, .unset] [])) (fun t kt => XS.ifYes X0.here hx rfl (pc0 := 45) (pc' := 53) rfl (hb hby at_45) rfl ((if0 _ _).trans (teq hf2).1) (by decide) (by decide) kt) ?_
        refine go (T' := s₁) (g' := (mkF m 55 #[.val (.int p1), .val (.int p2), .val (.int p3), .val (.int p4), .val (.int p5), .val (.int la), .val (.int x0), .val (.int x1), .val (.int sm), .unset, .unset, .unset, .unset, .unset, .unset, .unset, .unset, .unset, .unset, .unset] [(.int p5)])) (fun t kt => XS.iload X0.here hx rfl (hb hby at_53) rfl kt) ?_
        refine go (T' := s₁) (g' := (mkF m 56 #[.val (.int p1), .val (.int p2), .val (.int p3), .val (.int p4), .val (.int p5), .val (.int la), .val (.int x0), .val (.int x1), .val (.int sm), .unset, .unset, .unset, .unset, .unset, .unset, .unset, .unset, .unset, .unset, .unset] [(.int (2 : Int32)), (.int p5)])) (fun t kt => XS.iconst X0.here hx rfl (hb hby at_55) kt) ?_
        refine go (T' := s₁) (g' := (mkF m 57 #[.val (.int p1), .val (.int p2), .val (.int p3), .val (.int p4), .val (.int p5), .val (.int la), .val (.int x0), .val (.int x1), .val (.int sm), .unset, .unset, .unset, .unset, .unset, .unset, .unset, .unset, .unset, .unset, .unset] [(.int ((p5.toUInt32 >>> ((2 : Int32) &&& 31).toUInt32).toInt32))])) (fun t kt => XS.iushr X0.here hx rfl (hb hby at_56) rfl kt) ?_
        refine go (T' := s₁) (g' := (mkF m 58 #[.val (.int p1), .val (.int p2), .val (.int p3), .val (.int p4), .val (.int p5), .val (.int la), .val (.int x0), .val (.int x1), .val (.int sm), .unset, .unset, .unset, .unset, .unset, .unset, .unset, .unset, .unset, .unset, .unset] [(.int (3 : Int32)), (.int ((p5.toUInt32 >>> ((2 : Int32) &&& 31).toUInt32).toInt32))])) (fun t kt => XS.iconst X0.here hx rfl (hb hby at_57) kt) ?_
        refine go (T' := s₁) (g' := (mkF m 59 #[.val (.int p1), .val (.int p2), .val (.int p3), .val (.int p4), .val (.int p5), .val (.int la), .val (.int x0), .val (.int x1), .val (.int sm), .unset, .unset, .unset, .unset, .unset, .unset, .unset, .unset, .unset, .unset, .unset] [(.int (((p5.toUInt32 >>> ((2 : Int32) &&& 31).toUInt32).toInt32) &&& (3 : Int32)))])) (fun t kt => XS.iand X0.here hx rfl (hb hby at_58) rfl kt) ?_
        refine go (T' := s₁) (g' := (mkF m 60 #[.val (.int p1), .val (.int p2), .val (.int p3), .val (.int p4), .val (.int p5), .val (.int la), .val (.int x0), .val (.int x1), .val (.int sm), .unset, .unset, .unset, .unset, .unset, .unset, .unset, .unset, .unset, .unset, .unset] [(.int (3 : Int32)), (.int (((p5.toUInt32 >>> ((2 : Int32) &&& 31).toUInt32).toInt32) &&& (3 : Int32)))])) (fun t kt => XS.iconst X0.here hx rfl (hb hby at_59) kt) ?_
        refine go (T' := s₁) (g' := (mkF m 61 #[.val (.int p1), .val (.int p2), .val (.int p3), .val (.int p4), .val (.int p5), .val (.int la), .val (.int x0), .val (.int x1), .val (.int sm), .unset, .unset, .unset, .unset, .unset, .unset, .unset, .unset, .unset, .unset, .unset] [(.int ((((p5.toUInt32 >>> ((2 : Int32) &&& 31).toUInt32).toInt32) &&& (3 : Int32)) % (3 : Int32)))])) (fun t kt => iremM X0 hx rfl (hb hby at_60) rfl (by decide) kt) ?_
        exact goEq (by rw [e_lb, if_pos hf2]) kV
      · refine go (T' := s₁) (g' := (mkF m 48 #[.val (.int p1), .val (.int p2), .val (.int p3), .val (.int p4), .val (.int p5), .val (.int la), .val (.int x0), .val (.int x1), .val (.int sm), .unset, .unset, .unset, .unset, .unset, .unset, .unset, .unset, .unset, .unset, .unset] [])) (fun t kt => XS.ifNo X0.here hx rfl (hb hby at_45) rfl ((if0 _ _).trans (feq hf2).1) kt) ?_
        refine go (T' := s₁) (g' := (mkF m 50 #[.val (.int p1), .val (.int p2), .val (.int p3), .val (.int p4), .val (.int p5), .val (.int la), .val (.int x0), .val (.int x1), .val (.int sm), .unset, .unset, .unset, .unset, .unset, .unset, .unset, .unset, .unset, .unset, .unset] [(.int la)])) (fun t kt => XS.iload X0.here hx rfl (hb hby at_48) rfl kt) ?_
        refine go (T' := s₁) (g' := (mkF m 61 #[.val (.int p1), .val (.int p2), .val (.int p3), .val (.int p4), .val (.int p5), .val (.int la), .val (.int x0), .val (.int x1), .val (.int sm), .unset, .unset, .unset, .unset, .unset, .unset, .unset, .unset, .unset, .unset, .unset] [(.int la)])) (fun t kt => XS.goto X0.here hx rfl (pc0 := 50) (pc' := 61) rfl (hb hby at_50) (by decide) (by decide) kt) ?_
        exact goEq (by rw [e_lb, if_neg hf2]) kV
    · refine go (T' := s₁) (g' := (mkF m 63 #[.val (.int p1), .val (.int p2), .val (.int p3), .val (.int p4), .val (.int p5), .val (.int la), .val (.int x0), .val (.int x1), .val (.int sm), .val (.int lb), .unset, .unset, .unset, .unset, .unset, .unset, .unset, .unset, .unset, .unset] [])) (fun t kt => XS.istore X0.here hx rfl (hb hby at_61) rfl (l' := #[.val (.int p1), .val (.int p2), .val (.int p3), .val (.int p4), .val (.int p5), .val (.int la), .val (.int x0), .val (.int x1), .val (.int sm), .val (.int lb), .unset, .unset, .unset, .unset, .unset, .unset, .unset, .unset, .unset, .unset]) rfl kt) ?_
      refine go (T' := s₁) (g' := (mkF m 65 #[.val (.int p1), .val (.int p2), .val (.int p3), .val (.int p4), .val (.int p5), .val (.int la), .val (.int x0), .val (.int x1), .val (.int sm), .val (.int lb), .unset, .unset, .unset, .unset, .unset, .unset, .unset, .unset, .unset, .unset] [(.int sm)])) (fun t kt => XS.iload X0.here hx rfl (hb hby at_63) rfl kt) ?_
      obtain ⟨y0, e_y0⟩ : ∃ u, u = (if sm = 0 then ((p2 &&& (255 : Int32)).toUInt32.toUInt16.toUInt32.toInt32) else x0) := ⟨_, rfl⟩
      have hy0 : own_ch y0 := by
        rw [e_y0]; split
        · exact own_ch_i2c _
        · exact hx0
      refine goVia (T₂ := s₁) (g₂ := (mkF m 79 #[.val (.int p1), .val (.int p2), .val (.int p3), .val (.int p4), .val (.int p5), .val (.int la), .val (.int x0), .val (.int x1), .val (.int sm), .val (.int lb), .unset, .unset, .unset, .unset, .unset, .unset, .unset, .unset, .unset, .unset] [(.int y0)])) (fun kV => ?_) ?_
      · by_cases hfy0 : sm = (0 : Int32)
        · refine go (T' := s₁) (g' := (mkF m 73 #[.val (.int p1), .val (.int p2), .val (.int p3), .val (.int p4), .val (.int p5), .val (.int la), .val (.int x0), .val (.int x1), .val (.int sm), .val (.int lb), .unset, .unset, .unset, .unset, .unset, .unset, .unset, .unset, .unset, .unset] [])) (fun t kt => XS.ifYes X0.here hx rfl (pc0 := 65) (pc' := 73) rfl (hb hby at_65) rfl ((if0 _ _).trans (teq hfy0).1) (by decide) (by decide) kt) ?_
          refine go (T' := s₁) (g' := (mkF m 74 #[.val (.int p1), .val (.int p2), .val (.int p3), .val (.int p4), .val (.int p5), .val (.int la), .val (.int x0), .val (.int x1), .val (.int sm), .val (.int lb), .unset, .unset, .unset, .unset, .unset, .unset, .unset, .unset, .unset, .unset] [(.int p2)])) (fun t kt => XS.iloadN X0.here hx rfl (hb hby at_73) rfl kt) ?_
          refine go (T' := s₁) (g' := (mkF m 77 #[.val (.int p1), .val (.int p2), .val (.int p3), .val (.int p4), .val (.int p5), .val (.int la), .val (.int x0), .val (.int x1), .val (.int sm), .val (.int lb), .unset, .unset, .unset, .unset, .unset, .unset, .unset, .unset, .unset, .unset] [(.int (255 : Int32)), (.int p2)])) (fun t kt => XS.sipush X0.here hx rfl (hb hby at_74) kt) ?_
          refine go (T' := s₁) (g' := (mkF m 78 #[.val (.int p1), .val (.int p2), .val (.int p3), .val (.int p4), .val (.int p5), .val (.int la), .val (.int x0), .val (.int x1), .val (.int sm), .val (.int lb), .unset, .unset, .unset, .unset, .unset, .unset, .unset, .unset, .unset, .unset] [(.int (p2 &&& (255 : Int32)))])) (fun t kt => XS.iand X0.here hx rfl (hb hby at_77) rfl kt) ?_
          refine go (T' := s₁) (g' := (mkF m 79 #[.val (.int p1), .val (.int p2), .val (.int p3), .val (.int p4), .val (.int p5), .val (.int la), .val (.int x0), .val (.int x1), .val (.int sm), .val (.int lb), .unset, .unset, .unset, .unset, .unset, .unset, .unset, .unset, .unset, .unset] [(.int ((p2 &&& (255 : Int32)).toUInt32.toUInt16.toUInt32.toInt32))])) (fun t kt => XS.i2c X0.here hx rfl (hb hby at_78) rfl kt) ?_
          exact goEq (by rw [e_y0, if_pos hfy0]) kV
        · refine go (T' := s₁) (g' := (mkF m 68 #[.val (.int p1), .val (.int p2), .val (.int p3), .val (.int p4), .val (.int p5), .val (.int la), .val (.int x0), .val (.int x1), .val (.int sm), .val (.int lb), .unset, .unset, .unset, .unset, .unset, .unset, .unset, .unset, .unset, .unset] [])) (fun t kt => XS.ifNo X0.here hx rfl (hb hby at_65) rfl ((if0 _ _).trans (feq hfy0).1) kt) ?_
          refine go (T' := s₁) (g' := (mkF m 70 #[.val (.int p1), .val (.int p2), .val (.int p3), .val (.int p4), .val (.int p5), .val (.int la), .val (.int x0), .val (.int x1), .val (.int sm), .val (.int lb), .unset, .unset, .unset, .unset, .unset, .unset, .unset, .unset, .unset, .unset] [(.int x0)])) (fun t kt => XS.iload X0.here hx rfl (hb hby at_68) rfl kt) ?_
          refine go (T' := s₁) (g' := (mkF m 79 #[.val (.int p1), .val (.int p2), .val (.int p3), .val (.int p4), .val (.int p5), .val (.int la), .val (.int x0), .val (.int x1), .val (.int sm), .val (.int lb), .unset, .unset, .unset, .unset, .unset, .unset, .unset, .unset, .unset, .unset] [(.int x0)])) (fun t kt => XS.goto X0.here hx rfl (pc0 := 70) (pc' := 79) rfl (hb hby at_70) (by decide) (by decide) kt) ?_
          exact goEq (by rw [e_y0, if_neg hfy0]) kV
      · refine go (T' := s₁) (g' := (mkF m 81 #[.val (.int p1), .val (.int p2), .val (.int p3), .val (.int p4), .val (.int p5), .val (.int la), .val (.int x0), .val (.int x1), .val (.int sm), .val (.int lb), .val (.int y0), .unset, .unset, .unset, .unset, .unset, .unset, .unset, .unset, .unset] [])) (fun t kt => XS.istore X0.here hx rfl (hb hby at_79) rfl (l' := #[.val (.int p1), .val (.int p2), .val (.int p3), .val (.int p4), .val (.int p5), .val (.int la), .val (.int x0), .val (.int x1), .val (.int sm), .val (.int lb), .val (.int y0), .unset, .unset, .unset, .unset, .unset, .unset, .unset, .unset, .unset]) rfl kt) ?_
        refine go (T' := s₁) (g' := (mkF m 83 #[.val (.int p1), .val (.int p2), .val (.int p3), .val (.int p4), .val (.int p5), .val (.int la), .val (.int x0), .val (.int x1), .val (.int sm), .val (.int lb), .val (.int y0), .unset, .unset, .unset, .unset, .unset, .unset, .unset, .unset, .unset] [(.int sm)])) (fun t kt => XS.iload X0.here hx rfl (hb hby at_81) rfl kt) ?_
        obtain ⟨y1, e_y1⟩ : ∃ u, u = (if sm = 0 then ((((p2.toUInt32 >>> ((8 : Int32) &&& 31).toUInt32).toInt32) &&& (255 : Int32)).toUInt32.toUInt16.toUInt32.toInt32) else x1) := ⟨_, rfl⟩
        have hy1 : own_ch y1 := by
          rw [e_y1]; split
          · exact own_ch_i2c _
          · exact hx1
        refine goVia (T₂ := s₁) (g₂ := (mkF m 100 #[.val (.int p1), .val (.int p2), .val (.int p3), .val (.int p4), .val (.int p5), .val (.int la), .val (.int x0), .val (.int x1), .val (.int sm), .val (.int lb), .val (.int y0), .unset, .unset, .unset, .unset, .unset, .unset, .unset, .unset, .unset] [(.int y1)])) (fun kV => ?_) ?_
        · by_cases hfy1 : sm = (0 : Int32)
          · refine go (T' := s₁) (g' := (mkF m 91 #[.val (.int p1), .val (.int p2), .val (.int p3), .val (.int p4), .val (.int p5), .val (.int la), .val (.int x0), .val (.int x1), .val (.int sm), .val (.int lb), .val (.int y0), .unset, .unset, .unset, .unset, .unset, .unset, .unset, .unset, .unset] [])) (fun t kt => XS.ifYes X0.here hx rfl (pc0 := 83) (pc' := 91) rfl (hb hby at_83) rfl ((if0 _ _).trans (teq hfy1).1) (by decide) (by decide) kt) ?_
            refine go (T' := s₁) (g' := (mkF m 92 #[.val (.int p1), .val (.int p2), .val (.int p3), .val (.int p4), .val (.int p5), .val (.int la), .val (.int x0), .val (.int x1), .val (.int sm), .val (.int lb), .val (.int y0), .unset, .unset, .unset, .unset, .unset, .unset, .unset, .unset, .unset] [(.int p2)])) (fun t kt => XS.iloadN X0.here hx rfl (hb hby at_91) rfl kt) ?_
            refine go (T' := s₁) (g' := (mkF m 94 #[.val (.int p1), .val (.int p2), .val (.int p3), .val (.int p4), .val (.int p5), .val (.int la), .val (.int x0), .val (.int x1), .val (.int sm), .val (.int lb), .val (.int y0), .unset, .unset, .unset, .unset, .unset, .unset, .unset, .unset, .unset] [(.int (8 : Int32)), (.int p2)])) (fun t kt => XS.bipush X0.here hx rfl (hb hby at_92) kt) ?_
            refine go (T' := s₁) (g' := (mkF m 95 #[.val (.int p1), .val (.int p2), .val (.int p3), .val (.int p4), .val (.int p5), .val (.int la), .val (.int x0), .val (.int x1), .val (.int sm), .val (.int lb), .val (.int y0), .unset, .unset, .unset, .unset, .unset, .unset, .unset, .unset, .unset] [(.int ((p2.toUInt32 >>> ((8 : Int32) &&& 31).toUInt32).toInt32))])) (fun t kt => XS.iushr X0.here hx rfl (hb hby at_94) rfl kt) ?_
            refine go (T' := s₁) (g' := (mkF m 98 #[.val (.int p1), .val (.int p2), .val (.int p3), .val (.int p4), .val (.int p5), .val (.int la), .val (.int x0), .val (.int x1), .val (.int sm), .val (.int lb), .val (.int y0), .unset, .unset, .unset, .unset, .unset, .unset, .unset, .unset, .unset] [(.int (255 : Int32)), (.int ((p2.toUInt32 >>> ((8 : Int32) &&& 31).toUInt32).toInt32))])) (fun t kt => XS.sipush X0.here hx rfl (hb hby at_95) kt) ?_
            refine go (T' := s₁) (g' := (mkF m 99 #[.val (.int p1), .val (.int p2), .val (.int p3), .val (.int p4), .val (.int p5), .val (.int la), .val (.int x0), .val (.int x1), .val (.int sm), .val (.int lb), .val (.int y0), .unset, .unset, .unset, .unset, .unset, .unset, .unset, .unset, .unset] [(.int (((p2.toUInt32 >>> ((8 : Int32) &&& 31).toUInt32).toInt32) &&& (255 : Int32)))])) (fun t kt => XS.iand X0.here hx rfl (hb hby at_98) rfl kt) ?_
            refine go (T' := s₁) (g' := (mkF m 100 #[.val (.int p1), .val (.int p2), .val (.int p3), .val (.int p4), .val (.int p5), .val (.int la), .val (.int x0), .val (.int x1), .val (.int sm), .val (.int lb), .val (.int y0), .unset, .unset, .unset, .unset, .unset, .unset, .unset, .unset, .unset] [(.int ((((p2.toUInt32 >>> ((8 : Int32) &&& 31).toUInt32).toInt32) &&& (255 : Int32)).toUInt32.toUInt16.toUInt32.toInt32))])) (fun t kt => XS.i2c X0.here hx rfl (hb hby at_99) rfl kt) ?_
            exact goEq (by rw [e_y1, if_pos hfy1]) kV
          · refine go (T' := s₁) (g' := (mkF m 86 #[.val (.int p1), .val (.int p2), .val (.int p3), .val (.int p4), .val (.int p5), .val (.int la), .val (.int x0), .val (.int x1), .val (.int sm), .val (.int lb), .val (.int y0), .unset, .unset, .unset, .unset, .unset, .unset, .unset, .unset, .unset] [])) (fun t kt => XS.ifNo X0.here hx rfl (hb hby at_83) rfl ((if0 _ _).trans (feq hfy1).1) kt) ?_
            refine go (T' := s₁) (g' := (mkF m 88 #[.val (.int p1), .val (.int p2), .val (.int p3), .val (.int p4), .val (.int p5), .val (.int la), .val (.int x0), .val (.int x1), .val (.int sm), .val (.int lb), .val (.int y0), .unset, .unset, .unset, .unset, .unset, .unset, .unset, .unset, .unset] [(.int x1)])) (fun t kt => XS.iload X0.here hx rfl (hb hby at_86) rfl kt) ?_
            refine go (T' := s₁) (g' := (mkF m 100 #[.val (.int p1), .val (.int p2), .val (.int p3), .val (.int p4), .val (.int p5), .val (.int la), .val (.int x0), .val (.int x1), .val (.int sm), .val (.int lb), .val (.int y0), .unset, .unset, .unset, .unset, .unset, .unset, .unset, .unset, .unset] [(.int x1)])) (fun t kt => XS.goto X0.here hx rfl (pc0 := 88) (pc' := 100) rfl (hb hby at_88) (by decide) (by decide) kt) ?_
            exact goEq (by rw [e_y1, if_neg hfy1]) kV
        · refine go (T' := s₁) (g' := (mkF m 102 #[.val (.int p1), .val (.int p2), .val (.int p3), .val (.int p4), .val (.int p5), .val (.int la), .val (.int x0), .val (.int x1), .val (.int sm), .val (.int lb), .val (.int y0), .val (.int y1), .unset, .unset, .unset, .unset, .unset, .unset, .unset, .unset] [])) (fun t kt => XS.istore X0.here hx rfl (hb hby at_100) rfl (l' := #[.val (.int p1), .val (.int p2), .val (.int p3), .val (.int p4), .val (.int p5), .val (.int la), .val (.int x0), .val (.int x1), .val (.int sm), .val (.int lb), .val (.int y0), .val (.int y1), .unset, .unset, .unset, .unset, .unset, .unset, .unset, .unset]) rfl kt) ?_
          refine go (T' := s₁) (g' := (mkF m 104 #[.val (.int p1), .val (.int p2), .val (.int p3), .val (.int p4), .val (.int p5), .val (.int la), .val (.int x0), .val (.int x1), .val (.int sm), .val (.int lb), .val (.int y0), .val (.int y1), .unset, .unset, .unset, .unset, .unset, .unset, .unset, .unset] [(.int p5)])) (fun t kt => XS.iload X0.here hx rfl (hb hby at_102) rfl kt) ?_
          refine go (T' := s₁) (g' := (mkF m 105 #[.val (.int p1), .val (.int p2), .val (.int p3), .val (.int p4), .val (.int p5), .val (.int la), .val (.int x0), .val (.int x1), .val (.int sm), .val (.int lb), .val (.int y0), .val (.int y1), .unset, .unset, .unset, .unset, .unset, .unset, .unset, .unset] [(.int (5 : Int32)), (.int p5)])) (fun t kt => XS.iconst X0.here hx rfl (hb hby at_104) kt) ?_
          refine go (T' := s₁) (g' := (mkF m 106 #[.val (.int p1), .val (.int p2), .val (.int p3), .val (.int p4), .val (.int p5), .val (.int la), .val (.int x0), .val (.int x1), .val (.int sm), .val (.int lb), .val (.int y0), .val (.int y1), .unset, .unset, .unset, .unset, .unset, .unset, .unset, .unset] [(.int ((p5.toUInt32 >>> ((5 : Int32) &&& 31).toUInt32).toInt32))])) (fun t kt => XS.iushr X0.here hx rfl (hb hby at_105) rfl kt) ?_
          refine go (T' := s₁) (g' := (mkF m 107 #[.val (.int p1), .val (.int p2), .val (.int p3), .val (.int p4), .val (.int p5), .val (.int la), .val (.int x0), .val (.int x1), .val (.int sm), .val (.int lb), .val (.int y0), .val (.int y1), .unset, .unset, .unset, .unset, .unset, .unset, .unset, .unset] [(.int (1 : Int32)), (.int ((p5.toUInt32 >>> ((5 : Int32) &&& 31).toUInt32).toInt32))])) (fun t kt => XS.iconst X0.here hx rfl (hb hby at_106) kt) ?_
          refine go (T' := s₁) (g' := (mkF m 108 #[.val (.int p1), .val (.int p2), .val (.int p3), .val (.int p4), .val (.int p5), .val (.int la), .val (.int x0), .val (.int x1), .val (.int sm), .val (.int lb), .val (.int y0), .val (.int y1), .unset, .unset, .unset, .unset, .unset, .unset, .unset, .unset] [(.int (((p5.toUInt32 >>> ((5 : Int32) &&& 31).toUInt32).toInt32) &&& (1 : Int32)))])) (fun t kt => XS.iand X0.here hx rfl (hb hby at_107) rfl kt) ?_
          obtain ⟨q2, e_q2⟩ : ∃ u, u = (if (((p5.toUInt32 >>> ((5 : Int32) &&& 31).toUInt32).toInt32) &&& (1 : Int32)) = 0 then p4 else p3) := ⟨_, rfl⟩
          refine goVia (T₂ := s₁) (g₂ := (mkF m 116 #[.val (.int p1), .val (.int p2), .val (.int p3), .val (.int p4), .val (.int p5), .val (.int la), .val (.int x0), .val (.int x1), .val (.int sm), .val (.int lb), .val (.int y0), .val (.int y1), .unset, .unset, .unset, .unset, .unset, .unset, .unset, .unset] [(.int q2)])) (fun kV => ?_) ?_
          · by_cases hf5 : (((p5.toUInt32 >>> ((5 : Int32) &&& 31).toUInt32).toInt32) &&& (1 : Int32)) = (0 : Int32)
            · refine go (T' := s₁) (g' := (mkF m 115 #[.val (.int p1), .val (.int p2), .val (.int p3), .val (.int p4), .val (.int p5), .val (.int la), .val (.int x0), .val (.int x1), .val (.int sm), .val (.int lb), .val (.int y0), .val (.int y1), .unset, .unset, .unset, .unset, .unset, .unset, .unset, .unset] [])) (fun t kt => XS.ifYes X0.here hx rfl (pc0 := 108) (pc' := 115) rfl (hb hby at_108) rfl ((if0 _ _).trans (teq hf5).1) (by decide) (by decide) kt) ?_
              refine go (T' := s₁) (g' := (mkF m 116 #[.val (.int p1), .val (.int p2), .val (.int p3), .val (.int p4), .val (.int p5), .val (.int la), .val (.int x0), .val (.int x1), .val (.int sm), .val (.int lb), .val (.int y0), .val (.int y1), .unset, .unset, .unset, .unset, .unset, .unset, .unset, .unset] [(.int p4)])) (fun t kt => XS.iloadN X0.here hx rfl (hb hby at_115) rfl kt) ?_
              exact goEq (by rw [e_q2, if_pos hf5]) kV
            · refine go (T' := s₁) (g' := (mkF m 111 #[.val (.int p1), .val (.int p2), .val (.int p3), .val (.int p4), .val (.int p5), .val (.int la), .val (.int x0), .val (.int x1), .val (.int sm), .val (.int lb), .val (.int y0), .val (.int y1), .unset, .unset, .unset, .unset, .unset, .unset, .unset, .unset] [])) (fun t kt => XS.ifNo X0.here hx rfl (hb hby at_108) rfl ((if0 _ _).trans (feq hf5).1) kt) ?_
              refine go (T' := s₁) (g' := (mkF m 112 #[.val (.int p1), .val (.int p2), .val (.int p3), .val (.int p4), .val (.int p5), .val (.int la), .val (.int x0), .val (.int x1), .val (.int sm), .val (.int lb), .val (.int y0), .val (.int y1), .unset, .unset, .unset, .unset, .unset, .unset, .unset, .unset] [(.int p3)])) (fun t kt => XS.iloadN X0.here hx rfl (hb hby at_111) rfl kt) ?_
              refine go (T' := s₁) (g' := (mkF m 116 #[.val (.int p1), .val (.int p2), .val (.int p3), .val (.int p4), .val (.int p5), .val (.int la), .val (.int x0), .val (.int x1), .val (.int sm), .val (.int lb), .val (.int y0), .val (.int y1), .unset, .unset, .unset, .unset, .unset, .unset, .unset, .unset] [(.int p3)])) (fun t kt => XS.goto X0.here hx rfl (pc0 := 112) (pc' := 116) rfl (hb hby at_112) (by decide) (by decide) kt) ?_
              exact goEq (by rw [e_q2, if_neg hf5]) kV
          · refine go (T' := s₁) (g' := (mkF m 118 #[.val (.int p1), .val (.int p2), .val (.int p3), .val (.int p4), .val (.int p5), .val (.int la), .val (.int x0), .val (.int x1), .val (.int sm), .val (.int lb), .val (.int y0), .val (.int y1), .val (.int q2), .unset, .unset, .unset, .unset, .unset, .unset, .unset] [])) (fun t kt => XS.istore X0.here hx rfl (hb hby at_116) rfl (l' := #[.val (.int p1), .val (.int p2), .val (.int p3), .val (.int p4), .val (.int p5), .val (.int la), .val (.int x0), .val (.int x1), .val (.int sm), .val (.int lb), .val (.int y0), .val (.int y1), .val (.int q2), .unset, .unset, .unset, .unset, .unset, .unset, .unset]) rfl kt) ?_
            refine go (T' := s₁) (g' := (mkF m 120 #[.val (.int p1), .val (.int p2), .val (.int p3), .val (.int p4), .val (.int p5), .val (.int la), .val (.int x0), .val (.int x1), .val (.int sm), .val (.int lb), .val (.int y0), .val (.int y1), .val (.int q2), .unset, .unset, .unset, .unset, .unset, .unset, .unset] [(.int la)])) (fun t kt => XS.iload X0.here hx rfl (hb hby at_118) rfl kt) ?_
            refine go (T' := s₁) (g' := (mkF m 122 #[.val (.int p1), .val (.int p2), .val (.int p3), .val (.int p4), .val (.int p5), .val (.int la), .val (.int x0), .val (.int x1), .val (.int sm), .val (.int lb), .val (.int y0), .val (.int y1), .val (.int q2), .unset, .unset, .unset, .unset, .unset, .unset, .unset] [(.int x0), (.int la)])) (fun t kt => XS.iload X0.here hx rfl (hb hby at_120) rfl kt) ?_
            refine go (T' := s₁) (g' := (mkF m 124 #[.val (.int p1), .val (.int p2), .val (.int p3), .val (.int p4), .val (.int p5), .val (.int la), .val (.int x0), .val (.int x1), .val (.int sm), .val (.int lb), .val (.int y0), .val (.int y1), .val (.int q2), .unset, .unset, .unset, .unset, .unset, .unset, .unset] [(.int x1), (.int x0), (.int la)])) (fun t kt => XS.iload X0.here hx rfl (hb hby at_122) rfl kt) ?_
            obtain ⟨_, _, ⟨T1036, L1036, k1036, n1036⟩, -, X1036, hs1036, hg1036, ⟨Lc1036, hQ1036, l1036, y1036, z1036, Cn1036⟩, st1036⟩ := callSS X0 hx (y := (⟨"com/example/offerloom/offerloom/book/PriceGroupEqualsPinLaw", "mk", "(ICC)Ljava/lang/String;"⟩ : MethodName)) hown (mvT hZ (hw _ (List.mem_of_getElem? (i := 0) rfl))) (mvT hZ (hw _ (List.mem_of_getElem? (i := 1) rfl))) (mvT hZ (hw _ (List.mem_of_getElem? (i := 2) rfl))) (mvT hZ (hw _ (List.mem_of_getElem? (i := 3) rfl))) (by decide) (backOfSH (W := 0) (rm1 l Z a0 hw [] la x0 x1 z h0 n0 Z0 OO SC hz hx0 hx1) hZ (hw _ (List.mem_of_getElem? (i := 3) rfl)) (hw _ (List.mem_of_getElem? (i := 2) rfl)) (by decide) (by decide) hEL (own_inv CH0)) (g := (mkF m 124 #[.val (.int p1), .val (.int p2), .val (.int p3), .val (.int p4), .val (.int p5), .val (.int la), .val (.int x0), .val (.int x1), .val (.int sm), .val (.int lb), .val (.int y0), .val (.int y1), .val (.int q2), .unset, .unset, .unset, .unset, .unset, .unset, .unset] [(.int x1), (.int x0), (.int la)])) rfl (by rw [hml]; rfl) (argsL := [(.int la), (.int x0), (.int x1)]) (rest := []) (lenOf pd_5 rfl) rfl (by show 2 * 0 + _ ≤ _; exact Nat.le_of_eq rfl) (hb hby at_124) (fun _ _ => ⟨rfl, e0, (by decide : 0 + 6 ≤ _), (by decide : 0 + 12 ≤ _)⟩)
            dsimp only [Pt.U, Pt.locs, Pt.cells, Pt.slots] at X1036 l1036 y1036 z1036 st1036 hQ1036 hs1036 hg1036 Cn1036
            subst l1036 y1036 z1036
            have X1036 : Stand p l e room_1 (s.setVm T1036.vm) m #[(.int p1), (.int p2), (.int p3), (.int p4), (.int p5)] below meth c T1036 _ _ _ := X1036
            have hS1036 : s.Since T1036.vm T1036.heap.size := foldS (T := s₁) (U := T1036) hS0 (by rw [e0]; exact hk0) hs1036 hg1036
            have hZ1036 : Z.Warmed39 T1036.vm := State.Warmed39.trans (t := s.setVm s.vm) hZ hs1036.1
            have hown1036 : (s.setVm T1036.vm).vm.findClass "com/example/offerloom/offerloom/book/PriceGroupEqualsPinLaw" = some m.cls := by rw [show (s.setVm T1036.vm).vm = T1036.vm from rfl, hs1036.1.alike.findClass]; exact hown
            have C1036 : CHr Z own_EL s.vm h0 T1036.vm T1036.heap := CHr.trans CH0 Cn1036
            obtain ⟨sa, rfl, N1036q, K1036, -, -, S1036⟩ := hQ1036
            have N1036 := Fr.app N0 N1036q
            refine goV (T' := T1036) (g' := (mkF m 127 #[.val (.int p1), .val (.int p2), .val (.int p3), .val (.int p4), .val (.int p5), .val (.int la), .val (.int x0), .val (.int x1), .val (.int sm), .val (.int lb), .val (.int y0), .val (.int y1), .val (.int q2), .unset, .unset, .unset, .unset, .unset, .unset, .unset] [(.ref sa)])) st1036 ?_
            have z1036 : n0 ≤ T1036.heap.size := Nat.le_trans Z0 K1036.1
            have fO__1036 : Old Z n0 T1036.heap := OO.keep K1036 all0
            obtain ⟨tsa, kbsa, Msa, vssa, Essa, Cssa, Vssa, Assa, hcsa, hbsa, hlsa⟩ := S1036
            refine go (T' := T1036) (g' := (mkF m 129 #[.val (.int p1), .val (.int p2), .val (.int p3), .val (.int p4), .val (.int p5), .val (.int la), .val (.int x0), .val (.int x1), .val (.int sm), .val (.int lb), .val (.int y0), .val (.int y1), .val (.int q2), .val (.ref sa), .unset, .unset, .unset, .unset, .unset, .unset] [])) (fun t kt => XS.astore X1036.here hx rfl (hb hby at_127) rfl rfl (l' := #[.val (.int p1), .val (.int p2), .val (.int p3), .val (.int p4), .val (.int p5), .val (.int la), .val (.int x0), .val (.int x1), .val (.int sm), .val (.int lb), .val (.int y0), .val (.int y1), .val (.int q2), .val (.ref sa), .unset, .unset, .unset, .unset, .unset, .unset]) rfl kt) ?_
            refine go (T' := T1036) (g' := (mkF m 131 #[.val (.int p1), .val (.int p2), .val (.int p3), .val (.int p4), .val (.int p5), .val (.int la), .val (.int x0), .val (.int x1), .val (.int sm), .val (.int lb), .val (.int y0), .val (.int y1), .val (.int q2), .val (.ref sa), .unset, .unset, .unset, .unset, .unset, .unset] [(.int lb)])) (fun t kt => XS.iload X1036.here hx rfl (hb hby at_129) rfl kt) ?_
            refine go (T' := T1036) (g' := (mkF m 133 #[.val (.int p1), .val (.int p2), .val (.int p3), .val (.int p4), .val (.int p5), .val (.int la), .val (.int x0), .val (.int x1), .val (.int sm), .val (.int lb), .val (.int y0), .val (.int y1), .val (.int q2), .val (.ref sa), .unset, .unset, .unset, .unset, .unset, .unset] [(.int y0), (.int lb)])) (fun t kt => XS.iload X1036.here hx rfl (hb hby at_131) rfl kt) ?_
            refine go (T' := T1036) (g' := (mkF m 135 #[.val (.int p1), .val (.int p2), .val (.int p3), .val (.int p4), .val (.int p5), .val (.int la), .val (.int x0), .val (.int x1), .val (.int sm), .val (.int lb), .val (.int y0), .val (.int y1), .val (.int q2), .val (.ref sa), .unset, .unset, .unset, .unset, .unset, .unset] [(.int y1), (.int y0), (.int lb)])) (fun t kt => XS.iload X1036.here hx rfl (hb hby at_133) rfl kt) ?_
            obtain ⟨_, _, ⟨T1037, L1037, k1037, n1037⟩, -, X1037, hs1037, hg1037, ⟨Lc1037, hQ1037, l1037, y1037, z1037, Cn1037⟩, st1037⟩ := callSS X1036 hx (y := (⟨"com/example/offerloom/offerloom/book/PriceGroupEqualsPinLaw", "mk", "(ICC)Ljava/lang/String;"⟩ : MethodName)) hown1036 (mvT hZ1036 (hw _ (List.mem_of_getElem? (i := 0) rfl))) (mvT hZ1036 (hw _ (List.mem_of_getElem? (i := 1) rfl))) (mvT hZ1036 (hw _ (List.mem_of_getElem? (i := 2) rfl))) (mvT hZ1036 (hw _ (List.mem_of_getElem? (i := 3) rfl))) (by decide) (backOfSH (W := 0) (rm1 l Z a0 hw [] lb y0 y1 z T1036.heap n0 z1036 fO__1036 SC hz hy0 hy1) hZ1036 (hw _ (List.mem_of_getElem? (i := 3) rfl)) (hw _ (List.mem_of_getElem? (i := 2) rfl)) (by decide) (by decide) hEL (own_inv C1036)) (g := (mkF m 135 #[.val (.int p1), .val (.int p2), .val (.int p3), .val (.int p4), .val (.int p5), .val (.int la), .val (.int x0), .val (.int x1), .val (.int sm), .val (.int lb), .val (.int y0), .val (.int y1), .val (.int q2), .val (.ref sa), .unset, .unset, .unset, .unset, .unset, .unset] [(.int y1), (.int y0), (.int lb)])) rfl (by rw [hml]; rfl) (argsL := [(.int lb), (.int y0), (.int y1)]) (rest := []) (lenOf pd_5 rfl) rfl (by show 2 * 0 + _ ≤ _; exact Nat.le_of_eq rfl) (hb hby at_135) (fun _ _ => ⟨rfl, rfl, (by decide : 6 + 6 ≤ _), (by decide : 12 + 12 ≤ _)⟩)
            dsimp only [Pt.U, Pt.locs, Pt.cells, Pt.slots] at X1037 l1037 y1037 z1037 st1037 hQ1037 hs1037 hg1037 Cn1037
            subst l1037 y1037 z1037
            have X1037 : Stand p l e room_1 (s.setVm T1037.vm) m #[(.int p1), (.int p2), (.int p3), (.int p4), (.int p5)] below meth c T1037 _ _ _ := X1037
            have hS1037 : s.Since T1037.vm T1037.heap.size := foldS (T := T1036) (U := T1037) hS1036 (Nat.le_refl _) hs1037 hg1037
            have hZ1037 : Z.Warmed39 T1037.vm := State.Warmed39.trans (t := s.setVm T1036.vm) hZ1036 hs1037.1
            have hown1037 : (s.setVm T1037.vm).vm.findClass "com/example/offerloom/offerloom/book/PriceGroupEqualsPinLaw" = some m.cls := by rw [show (s.setVm T1037.vm).vm = T1037.vm from rfl, hs1037.1.alike.findClass]; exact hown1036
            have C1037 : CHr Z own_EL s.vm h0 T1037.vm T1037.heap := CHr.trans C1036 Cn1037
            obtain ⟨sb, rfl, N1037q, K1037, -, -, S1037⟩ := hQ1037
            have N1037 := Fr.app N1036 N1037q
            refine goV (T' := T1037) (g' := (mkF m 138 #[.val (.int p1), .val (.int p2), .val (.int p3), .val (.int p4), .val (.int p5), .val (.int la), .val (.int x0), .val (.int x1), .val (.int sm), .val (.int lb), .val (.int y0), .val (.int y1), .val (.int q2), .val (.ref sa), .unset, .unset, .unset, .unset, .unset, .unset] [(.ref sb)])) st1037 ?_
            have z1037 : n0 ≤ T1037.heap.size := Nat.le_trans z1036 K1037.1
            have fO__1037 : Old Z n0 T1037.heap := fO__1036.keep K1037 all0
            have fE_sa_1037 : Exa Z T1037.heap sa "java/lang/String" := Essa.keep K1037
            have fF_sa_coder_1037 : Fld Z T1037.heap sa "java/lang/String" "coder" "B" (.int 0) := Cssa.keep K1037 nin0
            have fF_sa_value_1037 : Fld Z T1037.heap sa "java/lang/String" "value" "[B" (.ref tsa) := Vssa.keep K1037 nin0
            have fA_tsa_1037 : Arv Z T1037.heap tsa kbsa .byte Msa vssa (.int 0) := Assa.keep K1037 nin0
            obtain ⟨tsb, kbsb, Msb, vssb, Essb, Cssb, Vssb, Assb, hcsb, hbsb, hlsb⟩ := S1037
            refine go (T' := T1037) (g' := (mkF m 140 #[.val (.int p1), .val (.int p2), .val (.int p3), .val (.int p4), .val (.int p5), .val (.int la), .val (.int x0), .val (.int x1), .val (.int sm), .val (.int lb), .val (.int y0), .val (.int y1), .val (.int q2), .val (.ref sa), .val (.ref sb), .unset, .unset, .unset, .unset, .unset] [])) (fun t kt => XS.astore X1037.here hx rfl (hb hby at_138) rfl rfl (l' := #[.val (.int p1), .val (.int p2), .val (.int p3), .val (.int p4), .val (.int p5), .val (.int la), .val (.int x0), .val (.int x1), .val (.int sm), .val (.int lb), .val (.int y0), .val (.int y1), .val (.int q2), .val (.ref sa), .val (.ref sb), .unset, .unset, .unset, .unset, .unset]) rfl kt) ?_
            refine go (T' := T1037) (g' := (mkF m 142 #[.val (.int p1), .val (.int p2), .val (.int p3), .val (.int p4), .val (.int p5), .val (.int la), .val (.int x0), .val (.int x1), .val (.int sm), .val (.int lb), .val (.int y0), .val (.int y1), .val (.int q2), .val (.ref sa), .val (.ref sb), .unset, .unset, .unset, .unset, .unset] [(.int la)])) (fun t kt => XS.iload X1037.here hx rfl (hb hby at_140) rfl kt) ?_
            refine go (T' := T1037) (g' := (mkF m 144 #[.val (.int p1), .val (.int p2), .val (.int p3), .val (.int p4), .val (.int p5), .val (.int la), .val (.int x0), .val (.int x1), .val (.int sm), .val (.int lb), .val (.int y0), .val (.int y1), .val (.int q2), .val (.ref sa), .val (.ref sb), .unset, .unset, .unset, .unset, .unset] [(.int lb), (.int la)])) (fun t kt => XS.iload X1037.here hx rfl (hb hby at_142) rfl kt) ?_
            refine goVia (T₂ := T1037) (g₂ := (mkF m 178 #[.val (.int p1), .val (.int p2), .val (.int p3), .val (.int p4), .val (.int p5), .val (.int la), .val (.int x0), .val (.int x1), .val (.int sm), .val (.int lb), .val (.int y0), .val (.int y1), .val (.int q2), .val (.ref sa), .val (.ref sb), .unset, .unset, .unset, .unset, .unset] [(.int (own_b ((own_cs la x0 x1) = (own_cs lb y0 y1))))])) (fun kV => ?_) ?_
            · by_cases hs0 : la = lb
              · refine go (T' := T1037) (g' := (mkF m 147 #[.val (.int p1), .val (.int p2), .val (.int p3), .val (.int p4), .val (.int p5), .val (.int la), .val (.int x0), .val (.int x1), .val (.int sm), .val (.int lb), .val (.int y0), .val (.int y1), .val (.int q2), .val (.ref sa), .val (.ref sb), .unset, .unset, .unset, .unset, .unset] [])) (fun t kt => XS.icmpNo X1037.here hx rfl (hb hby at_144) rfl (teq hs0).2 kt) ?_
                refine go (T' := T1037) (g' := (mkF m 149 #[.val (.int p1), .val (.int p2), .val (.int p3), .val (.int p4), .val (.int p5), .val (.int la), .val (.int x0), .val (.int x1), .val (.int sm), .val (.int lb), .val (.int y0), .val (.int y1), .val (.int q2), .val (.ref sa), .val (.ref sb), .unset, .unset, .unset, .unset, .unset] [(.int la)])) (fun t kt => XS.iload X1037.here hx rfl (hb hby at_147) rfl kt) ?_
                refine go (T' := T1037) (g' := (mkF m 150 #[.val (.int p1), .val (.int p2), .val (.int p3), .val (.int p4), .val (.int p5), .val (.int la), .val (.int x0), .val (.int x1), .val (.int sm), .val (.int lb), .val (.int y0), .val (.int y1), .val (.int q2), .val (.ref sa), .val (.ref sb), .unset, .unset, .unset, .unset, .unset] [(.int (1 : Int32)), (.int la)])) (fun t kt => XS.iconst X1037.here hx rfl (hb hby at_149) kt) ?_
                by_cases hs1 : la < (1 : Int32)
                · refine go (T' := T1037) (g' := (mkF m 160 #[.val (.int p1), .val (.int p2), .val (.int p3), .val (.int p4), .val (.int p5), .val (.int la), .val (.int x0), .val (.int x1), .val (.int sm), .val (.int lb), .val (.int y0), .val (.int y1), .val (.int q2), .val (.ref sa), .val (.ref sb), .unset, .unset, .unset, .unset, .unset] [])) (fun t kt => XS.icmpYes X1037.here hx rfl (pc0 := 150) (pc' := 160) rfl (hb hby at_150) rfl (tlt hs1).1 (by decide) (by decide) kt) ?_
                  refine go (T' := T1037) (g' := (mkF m 162 #[.val (.int p1), .val (.int p2), .val (.int p3), .val (.int p4), .val (.int p5), .val (.int la), .val (.int x0), .val (.int x1), .val (.int sm), .val (.int lb), .val (.int y0), .val (.int y1), .val (.int q2), .val (.ref sa), .val (.ref sb), .unset, .unset, .unset, .unset, .unset] [(.int la)])) (fun t kt => XS.iload X1037.here hx rfl (hb hby at_160) rfl kt) ?_
                  refine go (T' := T1037) (g' := (mkF m 163 #[.val (.int p1), .val (.int p2), .val (.int p3), .val (.int p4), .val (.int p5), .val (.int la), .val (.int x0), .val (.int x1), .val (.int sm), .val (.int lb), .val (.int y0), .val (.int y1), .val (.int q2), .val (.ref sa), .val (.ref sb), .unset, .unset, .unset, .unset, .unset] [(.int (2 : Int32)), (.int la)])) (fun t kt => XS.iconst X1037.here hx rfl (hb hby at_162) kt) ?_
                  by_cases hs2 : la < (2 : Int32)
                  · refine go (T' := T1037) (g' := (mkF m 173 #[.val (.int p1), .val (.int p2), .val (.int p3), .val (.int p4), .val (.int p5), .val (.int la), .val (.int x0), .val (.int x1), .val (.int sm), .val (.int lb), .val (.int y0), .val (.int y1), .val (.int q2), .val (.ref sa), .val (.ref sb), .unset, .unset, .unset, .unset, .unset] [])) (fun t kt => XS.icmpYes X1037.here hx rfl (pc0 := 163) (pc' := 173) rfl (hb hby at_163) rfl (tlt hs2).1 (by decide) (by decide) kt) ?_
                    refine go (T' := T1037) (g' := (mkF m 174 #[.val (.int p1), .val (.int p2), .val (.int p3), .val (.int p4), .val (.int p5), .val (.int la), .val (.int x0), .val (.int x1), .val (.int sm), .val (.int lb), .val (.int y0), .val (.int y1), .val (.int q2), .val (.ref sa), .val (.ref sb), .unset, .unset, .unset, .unset, .unset] [(.int (1 : Int32))])) (fun t kt => XS.iconst X1037.here hx rfl (hb hby at_173) kt) ?_
                    refine go (T' := T1037) (g' := (mkF m 178 #[.val (.int p1), .val (.int p2), .val (.int p3), .val (.int p4), .val (.int p5), .val (.int la), .val (.int x0), .val (.int x1), .val (.int sm), .val (.int lb), .val (.int y0), .val (.int y1), .val (.int q2), .val (.ref sa), .val (.ref sb), .unset, .unset, .unset, .unset, .unset] [(.int (1 : Int32))])) (fun t kt => XS.goto X1037.here hx rfl (pc0 := 174) (pc' := 178) rfl (hb hby at_174) (by decide) (by decide) kt) ?_
                    exact goEq (by rw [own_b1 (own_s4 hla hs0 (Or.inl hs1) (Or.inl hs2))]) kV
                  · refine go (T' := T1037) (g' := (mkF m 166 #[.val (.int p1), .val (.int p2), .val (.int p3), .val (.int p4), .val (.int p5), .val (.int la), .val (.int x0), .val (.int x1), .val (.int sm), .val (.int lb), .val (.int y0), .val (.int y1), .val (.int q2), .val (.ref sa), .val (.ref sb), .unset, .unset, .unset, .unset, .unset] [])) (fun t kt => XS.icmpNo X1037.here hx rfl (hb hby at_163) rfl (flt hs2).1 kt) ?_
                    refine go (T' := T1037) (g' := (mkF m 168 #[.val (.int p1), .val (.int p2), .val (.int p3), .val (.int p4), .val (.int p5), .val (.int la), .val (.int x0), .val (.int x1), .val (.int sm), .val (.int lb), .val (.int y0), .val (.int y1), .val (.int q2), .val (.ref sa), .val (.ref sb), .unset, .unset, .unset, .unset, .unset] [(.int x1)])) (fun t kt => XS.iload X1037.here hx rfl (hb hby at_166) rfl kt) ?_
                    refine go (T' := T1037) (g' := (mkF m 170 #[.val (.int p1), .val (.int p2), .val (.int p3), .val (.int p4), .val (.int p5), .val (.int la), .val (.int x0), .val (.int x1), .val (.int sm), .val (.int lb), .val (.int y0), .val (.int y1), .val (.int q2), .val (.ref sa), .val (.ref sb), .unset, .unset, .unset, .unset, .unset] [(.int y1), (.int x1)])) (fun t kt => XS.iload X1037.here hx rfl (hb hby at_168) rfl kt) ?_
                    by_cases hs3 : x1 = y1
                    · refine go (T' := T1037) (g' := (mkF m 173 #[.val (.int p1), .val (.int p2), .val (.int p3), .val (.int p4), .val (.int p5), .val (.int la), .val (.int x0), .val (.int x1), .val (.int sm), .val (.int lb), .val (.int y0), .val (.int y1), .val (.int q2), .val (.ref sa), .val (.ref sb), .unset, .unset, .unset, .unset, .unset] [])) (fun t kt => XS.icmpNo X1037.here hx rfl (hb hby at_170) rfl (teq hs3).2 kt) ?_
                      refine go (T' := T1037) (g' := (mkF m 174 #[.val (.int p1), .val (.int p2), .val (.int p3), .val (.int p4), .val (.int p5), .val (.int la), .val (.int x0), .val (.int x1), .val (.int sm), .val (.int lb), .val (.int y0), .val (.int y1), .val (.int q2), .val (.ref sa), .val (.ref sb), .unset, .unset, .unset, .unset, .unset] [(.int (1 : Int32))])) (fun t kt => XS.iconst X1037.here hx rfl (hb hby at_173) kt) ?_
                      refine go (T' := T1037) (g' := (mkF m 178 #[.val (.int p1), .val (.int p2), .val (.int p3), .val (.int p4), .val (.int p5), .val (.int la), .val (.int x0), .val (.int x1), .val (.int sm), .val (.int lb), .val (.int y0), .val (.int y1), .val (.int q2), .val (.ref sa), .val (.ref sb), .unset, .unset, .unset, .unset, .unset] [(.int (1 : Int32))])) (fun t kt => XS.goto X1037.here hx rfl (pc0 := 174) (pc' := 178) rfl (hb hby at_174) (by decide) (by decide) kt) ?_
                      exact goEq (by rw [own_b1 (own_s4 hla hs0 (Or.inl hs1) (Or.inr hs3))]) kV
                    · refine go (T' := T1037) (g' := (mkF m 177 #[.val (.int p1), .val (.int p2), .val (.int p3), .val (.int p4), .val (.int p5), .val (.int la), .val (.int x0), .val (.int x1), .val (.int sm), .val (.int lb), .val (.int y0), .val (.int y1), .val (.int q2), .val (.ref sa), .val (.ref sb), .unset, .unset, .unset, .unset, .unset] [])) (fun t kt => XS.icmpYes X1037.here hx rfl (pc0 := 170) (pc' := 177) rfl (hb hby at_170) rfl (feq hs3).2 (by decide) (by decide) kt) ?_
                      refine go (T' := T1037) (g' := (mkF m 178 #[.val (.int p1), .val (.int p2), .val (.int p3), .val (.int p4), .val (.int p5), .val (.int la), .val (.int x0), .val (.int x1), .val (.int sm), .val (.int lb), .val (.int y0), .val (.int y1), .val (.int q2), .val (.ref sa), .val (.ref sb), .unset, .unset, .unset, .unset, .unset] [(.int (0 : Int32))])) (fun t kt => XS.iconst X1037.here hx rfl (hb hby at_177) kt) ?_
                      exact goEq (by rw [own_b0 (own_s3 hla hs0 hs2 hs3)]) kV
                · refine go (T' := T1037) (g' := (mkF m 153 #[.val (.int p1), .val (.int p2), .val (.int p3), .val (.int p4), .val (.int p5), .val (.int la), .val (.int x0), .val (.int x1), .val (.int sm), .val (.int lb), .val (.int y0), .val (.int y1), .val (.int q2), .val (.ref sa), .val (.ref sb), .unset, .unset, .unset, .unset, .unset] [])) (fun t kt => XS.icmpNo X1037.here hx rfl (hb hby at_150) rfl (flt hs1).1 kt) ?_
                  refine go (T' := T1037) (g' := (mkF m 155 #[.val (.int p1), .val (.int p2), .val (.int p3), .val (.int p4), .val (.int p5), .val (.int la), .val (.int x0), .val (.int x1), .val (.int sm), .val (.int lb), .val (.int y0), .val (.int y1), .val (.int q2), .val (.ref sa), .val (.ref sb), .unset, .unset, .unset, .unset, .unset] [(.int x0)])) (fun t kt => XS.iload X1037.here hx rfl (hb hby at_153) rfl kt) ?_
                  refine go (T' := T1037) (g' := (mkF m 157 #[.val (.int p1), .val (.int p2), .val (.int p3), .val (.int p4), .val (.int p5), .val (.int la), .val (.int x0), .val (.int x1), .val (.int sm), .val (.int lb), .val (.int y0), .val (.int y1), .val (.int q2), .val (.ref sa), .val (.ref sb), .unset, .unset, .unset, .unset, .unset] [(.int y0), (.int x0)])) (fun t kt => XS.iload X1037.here hx rfl (hb hby at_155) rfl kt) ?_
                  by_cases hs4 : x0 = y0
                  · refine go (T' := T1037) (g' := (mkF m 160 #[.val (.int p1), .val (.int p2), .val (.int p3), .val (.int p4), .val (.int p5), .val (.int la), .val (.int x0), .val (.int x1), .val (.int sm), .val (.int lb), .val (.int y0), .val (.int y1), .val (.int q2), .val (.ref sa), .val (.ref sb), .unset, .unset, .unset, .unset, .unset] [])) (fun t kt => XS.icmpNo X1037.here hx rfl (hb hby at_157) rfl (teq hs4).2 kt) ?_
                    refine go (T' := T1037) (g' := (mkF m 162 #[.val (.int p1), .val (.int p2), .val (.int p3), .val (.int p4), .val (.int p5), .val (.int la), .val (.int x0), .val (.int x1), .val (.int sm), .val (.int lb), .val (.int y0), .val (.int y1), .val (.int q2), .val (.ref sa), .val (.ref sb), .unset, .unset, .unset, .unset, .unset] [(.int la)])) (fun t kt => XS.iload X1037.here hx rfl (hb hby at_160) rfl kt) ?_
                    refine go (T' := T1037) (g' := (mkF m 163 #[.val (.int p1), .val (.int p2), .val (.int p3), .val (.int p4), .val (.int p5), .val (.int la), .val (.int x0), .val (.int x1), .val (.int sm), .val (.int lb), .val (.int y0), .val (.int y1), .val (.int q2), .val (.ref sa), .val (.ref sb), .unset, .unset, .unset, .unset, .unset] [(.int (2 : Int32)), (.int la)])) (fun t kt => XS.iconst X1037.here hx rfl (hb hby at_162) kt) ?_
                    by_cases hs2 : la < (2 : Int32)
                    · refine go (T' := T1037) (g' := (mkF m 173 #[.val (.int p1), .val (.int p2), .val (.int p3), .val (.int p4), .val (.int p5), .val (.int la), .val (.int x0), .val (.int x1), .val (.int sm), .val (.int lb), .val (.int y0), .val (.int y1), .val (.int q2), .val (.ref sa), .val (.ref sb), .unset, .unset, .unset, .unset, .unset] [])) (fun t kt => XS.icmpYes X1037.here hx rfl (pc0 := 163) (pc' := 173) rfl (hb hby at_163) rfl (tlt hs2).1 (by decide) (by decide) kt) ?_
                      refine go (T' := T1037) (g' := (mkF m 174 #[.val (.int p1), .val (.int p2), .val (.int p3), .val (.int p4), .val (.int p5), .val (.int la), .val (.int x0), .val (.int x1), .val (.int sm), .val (.int lb), .val (.int y0), .val (.int y1), .val (.int q2), .val (.ref sa), .val (.ref sb), .unset, .unset, .unset, .unset, .unset] [(.int (1 : Int32))])) (fun t kt => XS.iconst X1037.here hx rfl (hb hby at_173) kt) ?_
                      refine go (T' := T1037) (g' := (mkF m 178 #[.val (.int p1), .val (.int p2), .val (.int p3), .val (.int p4), .val (.int p5), .val (.int la), .val (.int x0), .val (.int x1), .val (.int sm), .val (.int lb), .val (.int y0), .val (.int y1), .val (.int q2), .val (.ref sa), .val (.ref sb), .unset, .unset, .unset, .unset, .unset] [(.int (1 : Int32))])) (fun t kt => XS.goto X1037.here hx rfl (pc0 := 174) (pc' := 178) rfl (hb hby at_174) (by decide) (by decide) kt) ?_
                      exact goEq (by rw [own_b1 (own_s4 hla hs0 (Or.inr hs4) (Or.inl hs2))]) kV
                    · refine go (T' := T1037) (g' := (mkF m 166 #[.val (.int p1), .val (.int p2), .val (.int p3), .val (.int p4), .val (.int p5), .val (.int la), .val (.int x0), .val (.int x1), .val (.int sm), .val (.int lb), .val (.int y0), .val (.int y1), .val (.int q2), .val (.ref sa), .val (.ref sb), .unset, .unset, .unset, .unset, .unset] [])) (fun t kt => XS.icmpNo X1037.here hx rfl (hb hby at_163) rfl (flt hs2).1 kt) ?_
                      refine go (T' := T1037) (g' := (mkF m 168 #[.val (.int p1), .val (.int p2), .val (.int p3), .val (.int p4), .val (.int p5), .val (.int la), .val (.int x0), .val (.int x1), .val (.int sm), .val (.int lb), .val (.int y0), .val (.int y1), .val (.int q2), .val (.ref sa), .val (.ref sb), .unset, .unset, .unset, .unset, .unset] [(.int x1)])) (fun t kt => XS.iload X1037.here hx rfl (hb hby at_166) rfl kt) ?_
                      refine go (T' := T1037) (g' := (mkF m 170 #[.val (.int p1), .val (.int p2), .val (.int p3), .val (.int p4), .val (.int p5), .val (.int la), .val (.int x0), .val (.int x1), .val (.int sm), .val (.int lb), .val (.int y0), .val (.int y1), .val (.int q2), .val (.ref sa), .val (.ref sb), .unset, .unset, .unset, .unset, .unset] [(.int y1), (.int x1)])) (fun t kt => XS.iload X1037.here hx rfl (hb hby at_168) rfl kt) ?_
                      by_cases hs3 : x1 = y1
                      · refine go (T' := T1037) (g' := (mkF m 173 #[.val (.int p1), .val (.int p2), .val (.int p3), .val (.int p4), .val (.int p5), .val (.int la), .val (.int x0), .val (.int x1), .val (.int sm), .val (.int lb), .val (.int y0), .val (.int y1), .val (.int q2), .val (.ref sa), .val (.ref sb), .unset, .unset, .unset, .unset, .unset] [])) (fun t kt => XS.icmpNo X1037.here hx rfl (hb hby at_170) rfl (teq hs3).2 kt) ?_
                        refine go (T' := T1037) (g' := (mkF m 174 #[.val (.int p1), .val (.int p2), .val (.int p3), .val (.int p4), .val (.int p5), .val (.int la), .val (.int x0), .val (.int x1), .val (.int sm), .val (.int lb), .val (.int y0), .val (.int y1), .val (.int q2), .val (.ref sa), .val (.ref sb), .unset, .unset, .unset, .unset, .unset] [(.int (1 : Int32))])) (fun t kt => XS.iconst X1037.here hx rfl (hb hby at_173) kt) ?_
                        refine go (T' := T1037) (g' := (mkF m 178 #[.val (.int p1), .val (.int p2), .val (.int p3), .val (.int p4), .val (.int p5), .val (.int la), .val (.int x0), .val (.int x1), .val (.int sm), .val (.int lb), .val (.int y0), .val (.int y1), .val (.int q2), .val (.ref sa), .val (.ref sb), .unset, .unset, .unset, .unset, .unset] [(.int (1 : Int32))])) (fun t kt => XS.goto X1037.here hx rfl (pc0 := 174) (pc' := 178) rfl (hb hby at_174) (by decide) (by decide) kt) ?_
                        exact goEq (by rw [own_b1 (own_s4 hla hs0 (Or.inr hs4) (Or.inr hs3))]) kV
                      · refine go (T' := T1037) (g' := (mkF m 177 #[.val (.int p1), .val (.int p2), .val (.int p3), .val (.int p4), .val (.int p5), .val (.int la), .val (.int x0), .val (.int x1), .val (.int sm), .val (.int lb), .val (.int y0), .val (.int y1), .val (.int q2), .val (.ref sa), .val (.ref sb), .unset, .unset, .unset, .unset, .unset] [])) (fun t kt => XS.icmpYes X1037.here hx rfl (pc0 := 170) (pc' := 177) rfl (hb hby at_170) rfl (feq hs3).2 (by decide) (by decide) kt) ?_
                        refine go (T' := T1037) (g' := (mkF m 178 #[.val (.int p1), .val (.int p2), .val (.int p3), .val (.int p4), .val (.int p5), .val (.int la), .val (.int x0), .val (.int x1), .val (.int sm), .val (.int lb), .val (.int y0), .val (.int y1), .val (.int q2), .val (.ref sa), .val (.ref sb), .unset, .unset, .unset, .unset, .unset] [(.int (0 : Int32))])) (fun t kt => XS.iconst X1037.here hx rfl (hb hby at_177) kt) ?_
                        exact goEq (by rw [own_b0 (own_s3 hla hs0 hs2 hs3)]) kV
                  · refine go (T' := T1037) (g' := (mkF m 177 #[.val (.int p1), .val (.int p2), .val (.int p3), .val (.int p4), .val (.int p5), .val (.int la), .val (.int x0), .val (.int x1), .val (.int sm), .val (.int lb), .val (.int y0), .val (.int y1), .val (.int q2), .val (.ref sa), .val (.ref sb), .unset, .unset, .unset, .unset, .unset] [])) (fun t kt => XS.icmpYes X1037.here hx rfl (pc0 := 157) (pc' := 177) rfl (hb hby at_157) rfl (feq hs4).2 (by decide) (by decide) kt) ?_
                    refine go (T' := T1037) (g' := (mkF m 178 #[.val (.int p1), .val (.int p2), .val (.int p3), .val (.int p4), .val (.int p5), .val (.int la), .val (.int x0), .val (.int x1), .val (.int sm), .val (.int lb), .val (.int y0), .val (.int y1), .val (.int q2), .val (.ref sa), .val (.ref sb), .unset, .unset, .unset, .unset, .unset] [(.int (0 : Int32))])) (fun t kt => XS.iconst X1037.here hx rfl (hb hby at_177) kt) ?_
                    exact goEq (by rw [own_b0 (own_s2 hla hs0 hs1 hs4)]) kV
              · refine go (T' := T1037) (g' := (mkF m 177 #[.val (.int p1), .val (.int p2), .val (.int p3), .val (.int p4), .val (.int p5), .val (.int la), .val (.int x0), .val (.int x1), .val (.int sm), .val (.int lb), .val (.int y0), .val (.int y1), .val (.int q2), .val (.ref sa), .val (.ref sb), .unset, .unset, .unset, .unset, .unset] [])) (fun t kt => XS.icmpYes X1037.here hx rfl (pc0 := 144) (pc' := 177) rfl (hb hby at_144) rfl (feq hs0).2 (by decide) (by decide) kt) ?_
                refine go (T' := T1037) (g' := (mkF m 178 #[.val (.int p1), .val (.int p2), .val (.int p3), .val (.int p4), .val (.int p5), .val (.int la), .val (.int x0), .val (.int x1), .val (.int sm), .val (.int lb), .val (.int y0), .val (.int y1), .val (.int q2), .val (.ref sa), .val (.ref sb), .unset, .unset, .unset, .unset, .unset] [(.int (0 : Int32))])) (fun t kt => XS.iconst X1037.here hx rfl (hb hby at_177) kt) ?_
                exact goEq (by rw [own_b0 (own_s1 hla hlb hs0)]) kV
            · refine go (T' := T1037) (g' := (mkF m 180 #[.val (.int p1), .val (.int p2), .val (.int p3), .val (.int p4), .val (.int p5), .val (.int la), .val (.int x0), .val (.int x1), .val (.int sm), .val (.int lb), .val (.int y0), .val (.int y1), .val (.int q2), .val (.ref sa), .val (.ref sb), .val (.int (own_b ((own_cs la x0 x1) = (own_cs lb y0 y1)))), .unset, .unset, .unset, .unset] [])) (fun t kt => XS.istore X1037.here hx rfl (hb hby at_178) rfl (l' := #[.val (.int p1), .val (.int p2), .val (.int p3), .val (.int p4), .val (.int p5), .val (.int la), .val (.int x0), .val (.int x1), .val (.int sm), .val (.int lb), .val (.int y0), .val (.int y1), .val (.int q2), .val (.ref sa), .val (.ref sb), .val (.int (own_b ((own_cs la x0 x1) = (own_cs lb y0 y1)))), .unset, .unset, .unset, .unset]) rfl kt) ?_
              refine go (T' := T1037) (g' := (mkF m 182 #[.val (.int p1), .val (.int p2), .val (.int p3), .val (.int p4), .val (.int p5), .val (.int la), .val (.int x0), .val (.int x1), .val (.int sm), .val (.int lb), .val (.int y0), .val (.int y1), .val (.int q2), .val (.ref sa), .val (.ref sb), .val (.int (own_b ((own_cs la x0 x1) = (own_cs lb y0 y1)))), .unset, .unset, .unset, .unset] [(.int (own_b ((own_cs la x0 x1) = (own_cs lb y0 y1))))])) (fun t kt => XS.iload X1037.here hx rfl (hb hby at_180) rfl kt) ?_
              refine goVia (T₂ := T1037) (g₂ := (mkF m 196 #[.val (.int p1), .val (.int p2), .val (.int p3), .val (.int p4), .val (.int p5), .val (.int la), .val (.int x0), .val (.int x1), .val (.int sm), .val (.int lb), .val (.int y0), .val (.int y1), .val (.int q2), .val (.ref sa), .val (.ref sb), .val (.int (own_b ((own_cs la x0 x1) = (own_cs lb y0 y1)))), .unset, .unset, .unset, .unset] [(.int (own_b ((own_cs la x0 x1) = (own_cs lb y0 y1) ∧ p3 = q2)))])) (fun kV => ?_) ?_
              · by_cases hsame : (own_cs la x0 x1) = (own_cs lb y0 y1)
                · refine go (T' := T1037) (g' := (mkF m 185 #[.val (.int p1), .val (.int p2), .val (.int p3), .val (.int p4), .val (.int p5), .val (.int la), .val (.int x0), .val (.int x1), .val (.int sm), .val (.int lb), .val (.int y0), .val (.int y1), .val (.int q2), .val (.ref sa), .val (.ref sb), .val (.int (own_b ((own_cs la x0 x1) = (own_cs lb y0 y1)))), .unset, .unset, .unset, .unset] [])) (fun t kt => XS.ifNo X1037.here hx rfl (hb hby at_182) rfl ((if0 _ _).trans (feq (by rw [own_b1 hsame]; decide)).1) kt) ?_
                  refine go (T' := T1037) (g' := (mkF m 186 #[.val (.int p1), .val (.int p2), .val (.int p3), .val (.int p4), .val (.int p5), .val (.int la), .val (.int x0), .val (.int x1), .val (.int sm), .val (.int lb), .val (.int y0), .val (.int y1), .val (.int q2), .val (.ref sa), .val (.ref sb), .val (.int (own_b ((own_cs la x0 x1) = (own_cs lb y0 y1)))), .unset, .unset, .unset, .unset] [(.int p3)])) (fun t kt => XS.iloadN X1037.here hx rfl (hb hby at_185) rfl kt) ?_
                  refine go (T' := T1037) (g' := (mkF m 188 #[.val (.int p1), .val (.int p2), .val (.int p3), .val (.int p4), .val (.int p5), .val (.int la), .val (.int x0), .val (.int x1), .val (.int sm), .val (.int lb), .val (.int y0), .val (.int y1), .val (.int q2), .val (.ref sa), .val (.ref sb), .val (.int (own_b ((own_cs la x0 x1) = (own_cs lb y0 y1)))), .unset, .unset, .unset, .unset] [(.int q2), (.int p3)])) (fun t kt => XS.iload X1037.here hx rfl (hb hby at_186) rfl kt) ?_
                  by_cases hpq : p3 = q2
                  · refine go (T' := T1037) (g' := (mkF m 191 #[.val (.int p1), .val (.int p2), .val (.int p3), .val (.int p4), .val (.int p5), .val (.int la), .val (.int x0), .val (.int x1), .val (.int sm), .val (.int lb), .val (.int y0), .val (.int y1), .val (.int q2), .val (.ref sa), .val (.ref sb), .val (.int (own_b ((own_cs la x0 x1) = (own_cs lb y0 y1)))), .unset, .unset, .unset, .unset] [])) (fun t kt => XS.icmpNo X1037.here hx rfl (hb hby at_188) rfl (teq hpq).2 kt) ?_
                    refine go (T' := T1037) (g' := (mkF m 192 #[.val (.int p1), .val (.int p2), .val (.int p3), .val (.int p4), .val (.int p5), .val (.int la), .val (.int x0), .val (.int x1), .val (.int sm), .val (.int lb), .val (.int y0), .val (.int y1), .val (.int q2), .val (.ref sa), .val (.ref sb), .val (.int (own_b ((own_cs la x0 x1) = (own_cs lb y0 y1)))), .unset, .unset, .unset, .unset] [(.int (1 : Int32))])) (fun t kt => XS.iconst X1037.here hx rfl (hb hby at_191) kt) ?_
                    refine go (T' := T1037) (g' := (mkF m 196 #[.val (.int p1), .val (.int p2), .val (.int p3), .val (.int p4), .val (.int p5), .val (.int la), .val (.int x0), .val (.int x1), .val (.int sm), .val (.int lb), .val (.int y0), .val (.int y1), .val (.int q2), .val (.ref sa), .val (.ref sb), .val (.int (own_b ((own_cs la x0 x1) = (own_cs lb y0 y1)))), .unset, .unset, .unset, .unset] [(.int (1 : Int32))])) (fun t kt => XS.goto X1037.here hx rfl (pc0 := 192) (pc' := 196) rfl (hb hby at_192) (by decide) (by decide) kt) ?_
                    exact goEq (by rw [own_b1 (P := (own_cs la x0 x1) = (own_cs lb y0 y1) ∧ p3 = q2) ⟨hsame, hpq⟩]) kV
                  · refine go (T' := T1037) (g' := (mkF m 195 #[.val (.int p1), .val (.int p2), .val (.int p3), .val (.int p4), .val (.int p5), .val (.int la), .val (.int x0), .val (.int x1), .val (.int sm), .val (.int lb), .val (.int y0), .val (.int y1), .val (.int q2), .val (.ref sa), .val (.ref sb), .val (.int (own_b ((own_cs la x0 x1) = (own_cs lb y0 y1)))), .unset, .unset, .unset, .unset] [])) (fun t kt => XS.icmpYes X1037.here hx rfl (pc0 := 188) (pc' := 195) rfl (hb hby at_188) rfl (feq hpq).2 (by decide) (by decide) kt) ?_
                    refine go (T' := T1037) (g' := (mkF m 196 #[.val (.int p1), .val (.int p2), .val (.int p3), .val (.int p4), .val (.int p5), .val (.int la), .val (.int x0), .val (.int x1), .val (.int sm), .val (.int lb), .val (.int y0), .val (.int y1), .val (.int q2), .val (.ref sa), .val (.ref sb), .val (.int (own_b ((own_cs la x0 x1) = (own_cs lb y0 y1)))), .unset, .unset, .unset, .unset] [(.int (0 : Int32))])) (fun t kt => XS.iconst X1037.here hx rfl (hb hby at_195) kt) ?_
                    exact goEq (by rw [own_b0 (P := (own_cs la x0 x1) = (own_cs lb y0 y1) ∧ p3 = q2) (fun k => hpq k.2)]) kV
                · refine go (T' := T1037) (g' := (mkF m 195 #[.val (.int p1), .val (.int p2), .val (.int p3), .val (.int p4), .val (.int p5), .val (.int la), .val (.int x0), .val (.int x1), .val (.int sm), .val (.int lb), .val (.int y0), .val (.int y1), .val (.int q2), .val (.ref sa), .val (.ref sb), .val (.int (own_b ((own_cs la x0 x1) = (own_cs lb y0 y1)))), .unset, .unset, .unset, .unset] [])) (fun t kt => XS.ifYes X1037.here hx rfl (pc0 := 182) (pc' := 195) rfl (hb hby at_182) rfl ((if0 _ _).trans (teq (own_b0 hsame)).1) (by decide) (by decide) kt) ?_
                  refine go (T' := T1037) (g' := (mkF m 196 #[.val (.int p1), .val (.int p2), .val (.int p3), .val (.int p4), .val (.int p5), .val (.int la), .val (.int x0), .val (.int x1), .val (.int sm), .val (.int lb), .val (.int y0), .val (.int y1), .val (.int q2), .val (.ref sa), .val (.ref sb), .val (.int (own_b ((own_cs la x0 x1) = (own_cs lb y0 y1)))), .unset, .unset, .unset, .unset] [(.int (0 : Int32))])) (fun t kt => XS.iconst X1037.here hx rfl (hb hby at_195) kt) ?_
                  exact goEq (by rw [own_b0 (P := (own_cs la x0 x1) = (own_cs lb y0 y1) ∧ p3 = q2) (fun k => hsame k.1)]) kV
              · refine go (T' := T1037) (g' := (mkF m 198 #[.val (.int p1), .val (.int p2), .val (.int p3), .val (.int p4), .val (.int p5), .val (.int la), .val (.int x0), .val (.int x1), .val (.int sm), .val (.int lb), .val (.int y0), .val (.int y1), .val (.int q2), .val (.ref sa), .val (.ref sb), .val (.int (own_b ((own_cs la x0 x1) = (own_cs lb y0 y1)))), .val (.int (own_b ((own_cs la x0 x1) = (own_cs lb y0 y1) ∧ p3 = q2))), .unset, .unset, .unset] [])) (fun t kt => XS.istore X1037.here hx rfl (hb hby at_196) rfl (l' := #[.val (.int p1), .val (.int p2), .val (.int p3), .val (.int p4), .val (.int p5), .val (.int la), .val (.int x0), .val (.int x1), .val (.int sm), .val (.int lb), .val (.int y0), .val (.int y1), .val (.int q2), .val (.ref sa), .val (.ref sb), .val (.int (own_b ((own_cs la x0 x1) = (own_cs lb y0 y1)))), .val (.int (own_b ((own_cs la x0 x1) = (own_cs lb y0 y1) ∧ p3 = q2))), .unset, .unset, .unset]) rfl kt) ?_
                obtain ⟨T1038, h1038, X1038, e1038, E1038, A1038, D1038, -, st1038⟩ := newO X1037 hx hZ1037 hown1037 (hw _ (List.mem_of_getElem? (i := 26) rfl)) (hw _ (List.mem_of_getElem? (i := 27) rfl)) (hw _ (List.mem_of_getElem? (i := 28) rfl)) rfl (g := (mkF m 198 #[.val (.int p1), .val (.int p2), .val (.int p3), .val (.int p4), .val (.int p5), .val (.int la), .val (.int x0), .val (.int x1), .val (.int sm), .val (.int lb), .val (.int y0), .val (.int y1), .val (.int q2), .val (.ref sa), .val (.ref sb), .val (.int (own_b ((own_cs la x0 x1) = (own_cs lb y0 y1)))), .val (.int (own_b ((own_cs la x0 x1) = (own_cs lb y0 y1) ∧ p3 = q2))), .unset, .unset, .unset] [])) rfl (hb hby at_198) (by decide) (by decide)
                obtain ⟨bx, g1038⟩ : ∃ z, z = T1037.heap.size := ⟨_, rfl⟩
                rw [← g1038] at A1038 D1038 st1038
                have ne_sa_bx : sa ≠ bx := Nat.ne_of_lt (Nat.lt_of_lt_of_le fE_sa_1037.lt (Nat.le_of_eq g1038.symm))
                have ne_sb_bx : sb ≠ bx := Nat.ne_of_lt (Nat.lt_of_lt_of_le Essb.lt (Nat.le_of_eq g1038.symm))
                have ne_tsa_bx : tsa ≠ bx := Nat.ne_of_lt (Nat.lt_of_lt_of_le fA_tsa_1037.lt (Nat.le_of_eq g1038.symm))
                have ne_tsb_bx : tsb ≠ bx := Nat.ne_of_lt (Nat.lt_of_lt_of_le Assb.lt (Nat.le_of_eq g1038.symm))
                have g_bx : n0 ≤ bx := Nat.le_trans z1037 (Nat.le_of_eq g1038.symm)
                have sn1038 : Safe Z own_EL T1037.vm T1037.heap bx := Safe.new (Nat.le_of_eq g1038.symm)
                have z1038 : n0 ≤ h1038.size := Nat.le_trans z1037 E1038.1
                have y1038 : T1037.heap.size ≤ h1038.size := Nat.le_trans (Nat.le_refl _) E1038.1
                have C1038 : CHr Z own_EL s.vm h0 T1037.vm h1038 := CHr.trans C1037 (CHr.ext E1038 (own_inv C1037))
                have sf1038_bx : Safe Z own_EL T1037.vm h1038 bx := Safe.ext E1038 (own_inv C1037) sn1038
                have fO__1038 : Old Z n0 h1038 := fO__1037.ext E1038
                have fE_sa_1038 : Exa Z h1038 sa "java/lang/String" := fE_sa_1037.ext E1038
                have fF_sa_coder_1038 : Fld Z h1038 sa "java/lang/String" "coder" "B" (.int 0) := fF_sa_coder_1037.ext E1038
                have fF_sa_value_1038 : Fld Z h1038 sa "java/lang/String" "value" "[B" (.ref tsa) := fF_sa_value_1037.ext E1038
                have fA_tsa_1038 : Arv Z h1038 tsa kbsa .byte Msa vssa (.int 0) := fA_tsa_1037.ext E1038
                have fE_sb_1038 : Exa Z h1038 sb "java/lang/String" := Essb.ext E1038
                have fF_sb_coder_1038 : Fld Z h1038 sb "java/lang/String" "coder" "B" (.int 0) := Cssb.ext E1038
                have fF_sb_value_1038 : Fld Z h1038 sb "java/lang/String" "value" "[B" (.ref tsb) := Vssb.ext E1038
                have fA_tsb_1038 : Arv Z h1038 tsb kbsb .byte Msb vssb (.int 0) := Assb.ext E1038
                have F_id_bx : Fld Z h1038 bx "com/example/offerloom/offerloom/book/PriceGroup" "id" "Ljava/lang/String;" .null := D1038 (Or.inr (hw _ (List.mem_of_getElem? (i := 44) rfl))) (ty := (.object "java/lang/String")) (by decide)
                have F_priority_bx : Fld Z h1038 bx "com/example/offerloom/offerloom/book/PriceGroup" "priority" "I" (.int (0 : Int32)) := D1038 (Or.inr (hw _ (List.mem_of_getElem? (i := 46) rfl))) (ty := .int) (by decide)
                refine go (T' := T1038) (g' := (mkF m 201 #[.val (.int p1), .val (.int p2), .val (.int p3), .val (.int p4), .val (.int p5), .val (.int la), .val (.int x0), .val (.int x1), .val (.int sm), .val (.int lb), .val (.int y0), .val (.int y1), .val (.int q2), .val (.ref sa), .val (.ref sb), .val (.int (own_b ((own_cs la x0 x1) = (own_cs lb y0 y1)))), .val (.int (own_b ((own_cs la x0 x1) = (own_cs lb y0 y1) ∧ p3 = q2))), .unset, .unset, .unset] [(.ref bx)])) st1038 ?_
                refine go (T' := T1038) (g' := (mkF m 202 #[.val (.int p1), .val (.int p2), .val (.int p3), .val (.int p4), .val (.int p5), .val (.int la), .val (.int x0), .val (.int x1), .val (.int sm), .val (.int lb), .val (.int y0), .val (.int y1), .val (.int q2), .val (.ref sa), .val (.ref sb), .val (.int (own_b ((own_cs la x0 x1) = (own_cs lb y0 y1)))), .val (.int (own_b ((own_cs la x0 x1) = (own_cs lb y0 y1) ∧ p3 = q2))), .unset, .unset, .unset] [(.ref bx), (.ref bx)])) (fun t kt => XS.dup X1038.here hx rfl (hb hby at_201) rfl rfl kt) ?_
                refine go (T' := T1038) (g' := (mkF m 204 #[.val (.int p1), .val (.int p2), .val (.int p3), .val (.int p4), .val (.int p5), .val (.int la), .val (.int x0), .val (.int x1), .val (.int sm), .val (.int lb), .val (.int y0), .val (.int y1), .val (.int q2), .val (.ref sa), .val (.ref sb), .val (.int (own_b ((own_cs la x0 x1) = (own_cs lb y0 y1)))), .val (.int (own_b ((own_cs la x0 x1) = (own_cs lb y0 y1) ∧ p3 = q2))), .unset, .unset, .unset] [(.ref sa), (.ref bx), (.ref bx)])) (fun t kt => XS.aload X1038.here hx rfl (hb hby at_202) rfl rfl kt) ?_
                refine go (T' := T1038) (g' := (mkF m 205 #[.val (.int p1), .val (.int p2), .val (.int p3), .val (.int p4), .val (.int p5), .val (.int la), .val (.int x0), .val (.int x1), .val (.int sm), .val (.int lb), .val (.int y0), .val (.int y1), .val (.int q2), .val (.ref sa), .val (.ref sb), .val (.int (own_b ((own_cs la x0 x1) = (own_cs lb y0 y1)))), .val (.int (own_b ((own_cs la x0 x1) = (own_cs lb y0 y1) ∧ p3 = q2))), .unset, .unset, .unset] [(.int p3), (.ref sa), (.ref bx), (.ref bx)])) (fun t kt => XS.iloadN X1038.here hx rfl (hb hby at_204) rfl kt) ?_
                obtain ⟨_, _, ⟨T1039, L1039, k1039, n1039⟩, -, X1039, hs1039, hg1039, ⟨Lc1039, hQ1039, l1039, y1039, z1039⟩, st1039⟩ := X1038.specialBackS hx (y := (⟨"com/example/offerloom/offerloom/book/PriceGroup", "<init>", "(Ljava/lang/String;I)V"⟩ : MethodName)) rfl hown1037 (mvT hZ1037 (hw _ (List.mem_of_getElem? (i := 29) rfl))) (mvT hZ1037 (hw _ (List.mem_of_getElem? (i := 30) rfl))) (mvT hZ1037 (hw _ (List.mem_of_getElem? (i := 31) rfl))) (by decide) (backOfS (W := 1) (rm5 l Z a0 hw [] bx sa p3 h1038 n0 z1038 g_bx A1038 F_id_bx F_priority_bx) hZ1037 (hw _ (List.mem_of_getElem? (i := 31) rfl)) (hw _ (List.mem_of_getElem? (i := 28) rfl)) (by decide) (by decide)) (g := (mkF m 205 #[.val (.int p1), .val (.int p2), .val (.int p3), .val (.int p4), .val (.int p5), .val (.int la), .val (.int x0), .val (.int x1), .val (.int sm), .val (.int lb), .val (.int y0), .val (.int y1), .val (.int q2), .val (.ref sa), .val (.ref sb), .val (.int (own_b ((own_cs la x0 x1) = (own_cs lb y0 y1)))), .val (.int (own_b ((own_cs la x0 x1) = (own_cs lb y0 y1) ∧ p3 = q2))), .unset, .unset, .unset] [(.int p3), (.ref sa), (.ref bx), (.ref bx)])) rfl (by rw [hml]; rfl) (Steps.refl _) (a := bx) (argsL := [(.ref sa), (.int p3)]) (rest := [(.ref bx)]) (lenOf pd_6 rfl) rfl (by show 2 * 0 + _ ≤ _; exact Nat.le_of_eq rfl) (hb hby at_205) (fun _ _ => ⟨rfl, e1038, (by decide : 13 + 2 ≤ _), (by decide : 26 + 12 ≤ _)⟩)
                dsimp only [Pt.U, Pt.locs, Pt.cells, Pt.slots] at X1039 l1039 y1039 z1039 st1039 hQ1039 hs1039 hg1039
                subst l1039 y1039 z1039
                have X1039 : Stand p l e room_1 (s.setVm T1039.vm) m #[(.int p1), (.int p2), (.int p3), (.int p4), (.int p5)] below meth c T1039 _ _ _ := X1039
                have hS1039 : s.Since T1039.vm T1039.heap.size := foldS (T := T1038) (U := T1039) hS1037 (by rw [e1038]; exact y1038) hs1039 hg1039
                have hZ1039 : Z.Warmed39 T1039.vm := State.Warmed39.trans (t := s.setVm T1037.vm) hZ1037 hs1039.1
                have hown1039 : (s.setVm T1039.vm).vm.findClass "com/example/offerloom/offerloom/book/PriceGroupEqualsPinLaw" = some m.cls := by rw [show (s.setVm T1039.vm).vm = T1039.vm from rfl, hs1039.1.alike.findClass]; exact hown1037
                obtain ⟨rfl, N1039q, K1039, I1039, P1039⟩ := hQ1039
                have N1039 := Fr.app N1037 N1039q
                refine goV (T' := T1039) (g' := (mkF m 208 #[.val (.int p1), .val (.int p2), .val (.int p3), .val (.int p4), .val (.int p5), .val (.int la), .val (.int x0), .val (.int x1), .val (.int sm), .val (.int lb), .val (.int y0), .val (.int y1), .val (.int q2), .val (.ref sa), .val (.ref sb), .val (.int (own_b ((own_cs la x0 x1) = (own_cs lb y0 y1)))), .val (.int (own_b ((own_cs la x0 x1) = (own_cs lb y0 y1) ∧ p3 = q2))), .unset, .unset, .unset] [(.ref bx)])) st1039 ?_
                have z1039 : n0 ≤ T1039.heap.size := Nat.le_trans z1038 K1039.1
                have fO__1039 : Old Z n0 T1039.heap := fO__1038.keep K1039 (allS g_bx all0)
                have fE_sa_1039 : Exa Z T1039.heap sa "java/lang/String" := fE_sa_1038.keep K1039
                have fF_sa_coder_1039 : Fld Z T1039.heap sa "java/lang/String" "coder" "B" (.int 0) := fF_sa_coder_1038.keep K1039 (ninS ne_sa_bx nin0)
                have fF_sa_value_1039 : Fld Z T1039.heap sa "java/lang/String" "value" "[B" (.ref tsa) := fF_sa_value_1038.keep K1039 (ninS ne_sa_bx nin0)
                have fA_tsa_1039 : Arv Z T1039.heap tsa kbsa .byte Msa vssa (.int 0) := fA_tsa_1038.keep K1039 (ninS ne_tsa_bx nin0)
                have fE_sb_1039 : Exa Z T1039.heap sb "java/lang/String" := fE_sb_1038.keep K1039
                have fF_sb_coder_1039 : Fld Z T1039.heap sb "java/lang/String" "coder" "B" (.int 0) := fF_sb_coder_1038.keep K1039 (ninS ne_sb_bx nin0)
                have fF_sb_value_1039 : Fld Z T1039.heap sb "java/lang/String" "value" "[B" (.ref tsb) := fF_sb_value_1038.keep K1039 (ninS ne_sb_bx nin0)
                have fA_tsb_1039 : Arv Z T1039.heap tsb kbsb .byte Msb vssb (.int 0) := fA_tsb_1038.keep K1039 (ninS ne_tsb_bx nin0)
                have fE_bx_1039 : Exa Z T1039.heap bx "com/example/offerloom/offerloom/book/PriceGroup" := A1038.keep K1039
                refine go (T' := T1039) (g' := (mkF m 210 #[.val (.int p1), .val (.int p2), .val (.int p3), .val (.int p4), .val (.int p5), .val (.int la), .val (.int x0), .val (.int x1), .val (.int sm), .val (.int lb), .val (.int y0), .val (.int y1), .val (.int q2), .val (.ref sa), .val (.ref sb), .val (.int (own_b ((own_cs la x0 x1) = (own_cs lb y0 y1)))), .val (.int (own_b ((own_cs la x0 x1) = (own_cs lb y0 y1) ∧ p3 = q2))), .val (.ref bx), .unset, .unset] [])) (fun t kt => XS.astore X1039.here hx rfl (hb hby at_208) rfl rfl (l' := #[.val (.int p1), .val (.int p2), .val (.int p3), .val (.int p4), .val (.int p5), .val (.int la), .val (.int x0), .val (.int x1), .val (.int sm), .val (.int lb), .val (.int y0), .val (.int y1), .val (.int q2), .val (.ref sa), .val (.ref sb), .val (.int (own_b ((own_cs la x0 x1) = (own_cs lb y0 y1)))), .val (.int (own_b ((own_cs la x0 x1) = (own_cs lb y0 y1) ∧ p3 = q2))), .val (.ref bx), .unset, .unset]) rfl kt) ?_
                obtain ⟨T1040, h1040, X1040, e1040, E1040, A1040, D1040, -, st1040⟩ := newO X1039 hx hZ1039 hown1039 (hw _ (List.mem_of_getElem? (i := 26) rfl)) (hw _ (List.mem_of_getElem? (i := 27) rfl)) (hw _ (List.mem_of_getElem? (i := 28) rfl)) rfl (g := (mkF m 210 #[.val (.int p1), .val (.int p2), .val (.int p3), .val (.int p4), .val (.int p5), .val (.int la), .val (.int x0), .val (.int x1), .val (.int sm), .val (.int lb), .val (.int y0), .val (.int y1), .val (.int q2), .val (.ref sa), .val (.ref sb), .val (.int (own_b ((own_cs la x0 x1) = (own_cs lb y0 y1)))), .val (.int (own_b ((own_cs la x0 x1) = (own_cs lb y0 y1) ∧ p3 = q2))), .val (.ref bx), .unset, .unset] [])) rfl (hb hby at_210) (by decide) (by decide)
                obtain ⟨by_, g1040⟩ : ∃ z, z = T1039.heap.size := ⟨_, rfl⟩
                rw [← g1040] at A1040 D1040 st1040
                have ne_bx_by_ : bx ≠ by_ := Nat.ne_of_lt (Nat.lt_of_lt_of_le fE_bx_1039.lt (Nat.le_of_eq g1040.symm))
                have ne_sa_by_ : sa ≠ by_ := Nat.ne_of_lt (Nat.lt_of_lt_of_le fE_sa_1039.lt (Nat.le_of_eq g1040.symm))
                have ne_sb_by_ : sb ≠ by_ := Nat.ne_of_lt (Nat.lt_of_lt_of_le fE_sb_1039.lt (Nat.le_of_eq g1040.symm))
                have ne_tsa_by_ : tsa ≠ by_ := Nat.ne_of_lt (Nat.lt_of_lt_of_le fA_tsa_1039.lt (Nat.le_of_eq g1040.symm))
                have ne_tsb_by_ : tsb ≠ by_ := Nat.ne_of_lt (Nat.lt_of_lt_of_le fA_tsb_1039.lt (Nat.le_of_eq g1040.symm))
                have g_by_ : n0 ≤ by_ := Nat.le_trans z1039 (Nat.le_of_eq g1040.symm)
                have z1040 : n0 ≤ h1040.size := Nat.le_trans z1039 E1040.1
                have y1040 : T1039.heap.size ≤ h1040.size := Nat.le_trans (Nat.le_refl _) E1040.1
                have fO__1040 : Old Z n0 h1040 := fO__1039.ext E1040
                have fE_sa_1040 : Exa Z h1040 sa "java/lang/String" := fE_sa_1039.ext E1040
                have fF_sa_coder_1040 : Fld Z h1040 sa "java/lang/String" "coder" "B" (.int 0) := fF_sa_coder_1039.ext E1040
                have fF_sa_value_1040 : Fld Z h1040 sa "java/lang/String" "value" "[B" (.ref tsa) := fF_sa_value_1039.ext E1040
                have fA_tsa_1040 : Arv Z h1040 tsa kbsa .byte Msa vssa (.int 0) := fA_tsa_1039.ext E1040
                have fE_sb_1040 : Exa Z h1040 sb "java/lang/String" := fE_sb_1039.ext E1040
                have fF_sb_coder_1040 : Fld Z h1040 sb "java/lang/String" "coder" "B" (.int 0) := fF_sb_coder_1039.ext E1040
                have fF_sb_value_1040 : Fld Z h1040 sb "java/lang/String" "value" "[B" (.ref tsb) := fF_sb_value_1039.ext E1040
                have fA_tsb_1040 : Arv Z h1040 tsb kbsb .byte Msb vssb (.int 0) := fA_tsb_1039.ext E1040
                have fE_bx_1040 : Exa Z h1040 bx "com/example/offerloom/offerloom/book/PriceGroup" := fE_bx_1039.ext E1040
                have fF_bx_id_1040 : Fld Z h1040 bx "com/example/offerloom/offerloom/book/PriceGroup" "id" "Ljava/lang/String;" (.ref sa) := I1039.ext E1040
                have fF_bx_priority_1040 : Fld Z h1040 bx "com/example/offerloom/offerloom/book/PriceGroup" "priority" "I" (.int p3) := P1039.ext E1040
                have F_id_by_ : Fld Z h1040 by_ "com/example/offerloom/offerloom/book/PriceGroup" "id" "Ljava/lang/String;" .null := D1040 (Or.inr (hw _ (List.mem_of_getElem? (i := 44) rfl))) (ty := (.object "java/lang/String")) (by decide)
                have F_priority_by_ : Fld Z h1040 by_ "com/example/offerloom/offerloom/book/PriceGroup" "priority" "I" (.int (0 : Int32)) := D1040 (Or.inr (hw _ (List.mem_of_getElem? (i := 46) rfl))) (ty := .int) (by decide)
                refine go (T' := T1040) (g' := (mkF m 213 #[.val (.int p1), .val (.int p2), .val (.int p3), .val (.int p4), .val (.int p5), .val (.int la), .val (.int x0), .val (.int x1), .val (.int sm), .val (.int lb), .val (.int y0), .val (.int y1), .val (.int q2), .val (.ref sa), .val (.ref sb), .val (.int (own_b ((own_cs la x0 x1) = (own_cs lb y0 y1)))), .val (.int (own_b ((own_cs la x0 x1) = (own_cs lb y0 y1) ∧ p3 = q2))), .val (.ref bx), .unset, .unset] [(.ref by_)])) st1040 ?_
                refine go (T' := T1040) (g' := (mkF m 214 #[.val (.int p1), .val (.int p2), .val (.int p3), .val (.int p4), .val (.int p5), .val (.int la), .val (.int x0), .val (.int x1), .val (.int sm), .val (.int lb), .val (.int y0), .val (.int y1), .val (.int q2), .val (.ref sa), .val (.ref sb), .val (.int (own_b ((own_cs la x0 x1) = (own_cs lb y0 y1)))), .val (.int (own_b ((own_cs la x0 x1) = (own_cs lb y0 y1) ∧ p3 = q2))), .val (.ref bx), .unset, .unset] [(.ref by_), (.ref by_)])) (fun t kt => XS.dup X1040.here hx rfl (hb hby at_213) rfl rfl kt) ?_
                refine go (T' := T1040) (g' := (mkF m 216 #[.val (.int p1), .val (.int p2), .val (.int p3), .val (.int p4), .val (.int p5), .val (.int la), .val (.int x0), .val (.int x1), .val (.int sm), .val (.int lb), .val (.int y0), .val (.int y1), .val (.int q2), .val (.ref sa), .val (.ref sb), .val (.int (own_b ((own_cs la x0 x1) = (own_cs lb y0 y1)))), .val (.int (own_b ((own_cs la x0 x1) = (own_cs lb y0 y1) ∧ p3 = q2))), .val (.ref bx), .unset, .unset] [(.ref sb), (.ref by_), (.ref by_)])) (fun t kt => XS.aload X1040.here hx rfl (hb hby at_214) rfl rfl kt) ?_
                refine go (T' := T1040) (g' := (mkF m 218 #[.val (.int p1), .val (.int p2), .val (.int p3), .val (.int p4), .val (.int p5), .val (.int la), .val (.int x0), .val (.int x1), .val (.int sm), .val (.int lb), .val (.int y0), .val (.int y1), .val (.int q2), .val (.ref sa), .val (.ref sb), .val (.int (own_b ((own_cs la x0 x1) = (own_cs lb y0 y1)))), .val (.int (own_b ((own_cs la x0 x1) = (own_cs lb y0 y1) ∧ p3 = q2))), .val (.ref bx), .unset, .unset] [(.int q2), (.ref sb), (.ref by_), (.ref by_)])) (fun t kt => XS.iload X1040.here hx rfl (hb hby at_216) rfl kt) ?_
                obtain ⟨_, _, ⟨T1041, L1041, k1041, n1041⟩, -, X1041, hs1041, hg1041, ⟨Lc1041, hQ1041, l1041, y1041, z1041⟩, st1041⟩ := X1040.specialBackS hx (y := (⟨"com/example/offerloom/offerloom/book/PriceGroup", "<init>", "(Ljava/lang/String;I)V"⟩ : MethodName)) rfl hown1039 (mvT hZ1039 (hw _ (List.mem_of_getElem? (i := 29) rfl))) (mvT hZ1039 (hw _ (List.mem_of_getElem? (i := 30) rfl))) (mvT hZ1039 (hw _ (List.mem_of_getElem? (i := 31) rfl))) (by decide) (backOfS (W := 1) (rm5 l Z a0 hw [] by_ sb q2 h1040 n0 z1040 g_by_ A1040 F_id_by_ F_priority_by_) hZ1039 (hw _ (List.mem_of_getElem? (i := 31) rfl)) (hw _ (List.mem_of_getElem? (i := 28) rfl)) (by decide) (by decide)) (g := (mkF m 218 #[.val (.int p1), .val (.int p2), .val (.int p3), .val (.int p4), .val (.int p5), .val (.int la), .val (.int x0), .val (.int x1), .val (.int sm), .val (.int lb), .val (.int y0), .val (.int y1), .val (.int q2), .val (.ref sa), .val (.ref sb), .val (.int (own_b ((own_cs la x0 x1) = (own_cs lb y0 y1)))), .val (.int (own_b ((own_cs la x0 x1) = (own_cs lb y0 y1) ∧ p3 = q2))), .val (.ref bx), .unset, .unset] [(.int q2), (.ref sb), (.ref by_), (.ref by_)])) rfl (by rw [hml]; rfl) (Steps.refl _) (a := by_) (argsL := [(.ref sb), (.int q2)]) (rest := [(.ref by_)]) (lenOf pd_6 rfl) rfl (by show 2 * 0 + _ ≤ _; exact Nat.le_of_eq rfl) (hb hby at_218) (fun _ _ => ⟨rfl, e1040, (by decide : 16 + 2 ≤ _), (by decide : 40 + 12 ≤ _)⟩)
                dsimp only [Pt.U, Pt.locs, Pt.cells, Pt.slots] at X1041 l1041 y1041 z1041 st1041 hQ1041 hs1041 hg1041
                subst l1041 y1041 z1041
                have X1041 : Stand p l e room_1 (s.setVm T1041.vm) m #[(.int p1), (.int p2), (.int p3), (.int p4), (.int p5)] below meth c T1041 _ _ _ := X1041
                have hS1041 : s.Since T1041.vm T1041.heap.size := foldS (T := T1040) (U := T1041) hS1039 (by rw [e1040]; exact y1040) hs1041 hg1041
                have hZ1041 : Z.Warmed39 T1041.vm := State.Warmed39.trans (t := s.setVm T1039.vm) hZ1039 hs1041.1
                have hown1041 : (s.setVm T1041.vm).vm.findClass "com/example/offerloom/offerloom/book/PriceGroupEqualsPinLaw" = some m.cls := by rw [show (s.setVm T1041.vm).vm = T1041.vm from rfl, hs1041.1.alike.findClass]; exact hown1039
                obtain ⟨rfl, N1041q, K1041, I1041, P1041⟩ := hQ1041
                have N1041 := Fr.app N1039 N1041q
                refine goV (T' := T1041) (g' := (mkF m 221 #[.val (.int p1), .val (.int p2), .val (.int p3), .val (.int p4), .val (.int p5), .val (.int la), .val (.int x0), .val (.int x1), .val (.int sm), .val (.int lb), .val (.int y0), .val (.int y1), .val (.int q2), .val (.ref sa), .val (.ref sb), .val (.int (own_b ((own_cs la x0 x1) = (own_cs lb y0 y1)))), .val (.int (own_b ((own_cs la x0 x1) = (own_cs lb y0 y1) ∧ p3 = q2))), .val (.ref bx), .unset, .unset] [(.ref by_)])) st1041 ?_
                have z1041 : n0 ≤ T1041.heap.size := Nat.le_trans z1040 K1041.1
                have fO__1041 : Old Z n0 T1041.heap := fO__1040.keep K1041 (allS g_by_ all0)
                have fE_sa_1041 : Exa Z T1041.heap sa "java/lang/String" := fE_sa_1040.keep K1041
                have fF_sa_coder_1041 : Fld Z T1041.heap sa "java/lang/String" "coder" "B" (.int 0) := fF_sa_coder_1040.keep K1041 (ninS ne_sa_by_ nin0)
                have fF_sa_value_1041 : Fld Z T1041.heap sa "java/lang/String" "value" "[B" (.ref tsa) := fF_sa_value_1040.keep K1041 (ninS ne_sa_by_ nin0)
                have fA_tsa_1041 : Arv Z T1041.heap tsa kbsa .byte Msa vssa (.int 0) := fA_tsa_1040.keep K1041 (ninS ne_tsa_by_ nin0)
                have fE_sb_1041 : Exa Z T1041.heap sb "java/lang/String" := fE_sb_1040.keep K1041
                have fF_sb_coder_1041 : Fld Z T1041.heap sb "java/lang/String" "coder" "B" (.int 0) := fF_sb_coder_1040.keep K1041 (ninS ne_sb_by_ nin0)
                have fF_sb_value_1041 : Fld Z T1041.heap sb "java/lang/String" "value" "[B" (.ref tsb) := fF_sb_value_1040.keep K1041 (ninS ne_sb_by_ nin0)
                have fA_tsb_1041 : Arv Z T1041.heap tsb kbsb .byte Msb vssb (.int 0) := fA_tsb_1040.keep K1041 (ninS ne_tsb_by_ nin0)
                have fE_bx_1041 : Exa Z T1041.heap bx "com/example/offerloom/offerloom/book/PriceGroup" := fE_bx_1040.keep K1041
                have fF_bx_id_1041 : Fld Z T1041.heap bx "com/example/offerloom/offerloom/book/PriceGroup" "id" "Ljava/lang/String;" (.ref sa) := fF_bx_id_1040.keep K1041 (ninS ne_bx_by_ nin0)
                have fF_bx_priority_1041 : Fld Z T1041.heap bx "com/example/offerloom/offerloom/book/PriceGroup" "priority" "I" (.int p3) := fF_bx_priority_1040.keep K1041 (ninS ne_bx_by_ nin0)
                have fE_by__1041 : Exa Z T1041.heap by_ "com/example/offerloom/offerloom/book/PriceGroup" := A1040.keep K1041
                refine go (T' := T1041) (g' := (mkF m 223 #[.val (.int p1), .val (.int p2), .val (.int p3), .val (.int p4), .val (.int p5), .val (.int la), .val (.int x0), .val (.int x1), .val (.int sm), .val (.int lb), .val (.int y0), .val (.int y1), .val (.int q2), .val (.ref sa), .val (.ref sb), .val (.int (own_b ((own_cs la x0 x1) = (own_cs lb y0 y1)))), .val (.int (own_b ((own_cs la x0 x1) = (own_cs lb y0 y1) ∧ p3 = q2))), .val (.ref bx), .val (.ref by_), .unset] [])) (fun t kt => XS.astore X1041.here hx rfl (hb hby at_221) rfl rfl (l' := #[.val (.int p1), .val (.int p2), .val (.int p3), .val (.int p4), .val (.int p5), .val (.int la), .val (.int x0), .val (.int x1), .val (.int sm), .val (.int lb), .val (.int y0), .val (.int y1), .val (.int q2), .val (.ref sa), .val (.ref sb), .val (.int (own_b ((own_cs la x0 x1) = (own_cs lb y0 y1)))), .val (.int (own_b ((own_cs la x0 x1) = (own_cs lb y0 y1) ∧ p3 = q2))), .val (.ref bx), .val (.ref by_), .unset]) rfl kt) ?_
                refine go (T' := T1041) (g' := (mkF m 225 #[.val (.int p1), .val (.int p2), .val (.int p3), .val (.int p4), .val (.int p5), .val (.int la), .val (.int x0), .val (.int x1), .val (.int sm), .val (.int lb), .val (.int y0), .val (.int y1), .val (.int q2), .val (.ref sa), .val (.ref sb), .val (.int (own_b ((own_cs la x0 x1) = (own_cs lb y0 y1)))), .val (.int (own_b ((own_cs la x0 x1) = (own_cs lb y0 y1) ∧ p3 = q2))), .val (.ref bx), .val (.ref by_), .unset] [(.ref sa)])) (fun t kt => XS.aload X1041.here hx rfl (hb hby at_223) rfl rfl kt) ?_
                refine go (T' := T1041) (g' := (mkF m 227 #[.val (.int p1), .val (.int p2), .val (.int p3), .val (.int p4), .val (.int p5), .val (.int la), .val (.int x0), .val (.int x1), .val (.int sm), .val (.int lb), .val (.int y0), .val (.int y1), .val (.int q2), .val (.ref sa), .val (.ref sb), .val (.int (own_b ((own_cs la x0 x1) = (own_cs lb y0 y1)))), .val (.int (own_b ((own_cs la x0 x1) = (own_cs lb y0 y1) ∧ p3 = q2))), .val (.ref bx), .val (.ref by_), .val (.ref sa)] [])) (fun t kt => XS.astore X1041.here hx rfl (hb hby at_225) rfl rfl (l' := #[.val (.int p1), .val (.int p2), .val (.int p3), .val (.int p4), .val (.int p5), .val (.int la), .val (.int x0), .val (.int x1), .val (.int sm), .val (.int lb), .val (.int y0), .val (.int y1), .val (.int q2), .val (.ref sa), .val (.ref sb), .val (.int (own_b ((own_cs la x0 x1) = (own_cs lb y0 y1)))), .val (.int (own_b ((own_cs la x0 x1) = (own_cs lb y0 y1) ∧ p3 = q2))), .val (.ref bx), .val (.ref by_), .val (.ref sa)]) rfl kt) ?_
                refine go (T' := T1041) (g' := (mkF m 229 #[.val (.int p1), .val (.int p2), .val (.int p3), .val (.int p4), .val (.int p5), .val (.int la), .val (.int x0), .val (.int x1), .val (.int sm), .val (.int lb), .val (.int y0), .val (.int y1), .val (.int q2), .val (.ref sa), .val (.ref sb), .val (.int (own_b ((own_cs la x0 x1) = (own_cs lb y0 y1)))), .val (.int (own_b ((own_cs la x0 x1) = (own_cs lb y0 y1) ∧ p3 = q2))), .val (.ref bx), .val (.ref by_), .val (.ref sa)] [(.ref bx)])) (fun t kt => XS.aload X1041.here hx rfl (hb hby at_227) rfl rfl kt) ?_
                refine go (T' := T1041) (g' := (mkF m 231 #[.val (.int p1), .val (.int p2), .val (.int p3), .val (.int p4), .val (.int p5), .val (.int la), .val (.int x0), .val (.int x1), .val (.int sm), .val (.int lb), .val (.int y0), .val (.int y1), .val (.int q2), .val (.ref sa), .val (.ref sb), .val (.int (own_b ((own_cs la x0 x1) = (own_cs lb y0 y1)))), .val (.int (own_b ((own_cs la x0 x1) = (own_cs lb y0 y1) ∧ p3 = q2))), .val (.ref bx), .val (.ref by_), .val (.ref sa)] [(.ref by_), (.ref bx)])) (fun t kt => XS.aload X1041.here hx rfl (hb hby at_229) rfl rfl kt) ?_
                obtain ⟨cq1042, kq1042, q1042a, q1042b, q1042c⟩ := isOf hZ1041 rfl fE_bx_1041
                obtain ⟨_, _, ⟨T1042, L1042, k1042, n1042⟩, -, X1042, ⟨Lc1042, hQ1042, l1042, y1042, z1042⟩, st1042⟩ := X1041.virtualBack hx (y := (⟨"com/example/offerloom/offerloom/book/PriceGroup", "equals", "(Ljava/lang/Object;)Z"⟩ : MethodName)) (z := (⟨"com/example/offerloom/offerloom/book/PriceGroup", "equals", "(Ljava/lang/Object;)Z"⟩ : MethodName)) hown1041 (mvT hZ1041 (hw _ (List.mem_of_getElem? (i := 47) rfl))) (mvT hZ1041 (hw _ (List.mem_of_getElem? (i := 48) rfl))) (notFace_of_selects (args := #[]) (mvT hZ1041 (hw _ (List.mem_of_getElem? (i := 50) rfl)))) (mvT hZ1041 (hw _ (List.mem_of_getElem? (i := 50) rfl))) (mvT hZ1041 (hw _ (List.mem_of_getElem? (i := 49) rfl))) (by decide) (backOf (W := 0) (rm8 l Z a0 hw [] bx by_ sa sb (own_cs la x0 x1) (own_cs lb y0 y1) p3 q2 z T1041.heap n0 z1041 fO__1041 SC hz fE_bx_1041 fE_by__1041 fF_bx_id_1041 fF_bx_priority_1041 I1041 P1041 ⟨tsa, _, _, _, fE_sa_1041, fF_sa_coder_1041, fF_sa_value_1041, fA_tsa_1041, hcsa, hbsa, hlsa⟩ ⟨tsb, _, _, _, fE_sb_1041, fF_sb_coder_1041, fF_sb_value_1041, fA_tsb_1041, hcsb, hbsb, hlsb⟩) hZ1041 (hw _ (List.mem_of_getElem? (i := 51) rfl)) (hw _ (List.mem_of_getElem? (i := 28) rfl)) (by decide) (by decide)) q1042a q1042c (g := (mkF m 231 #[.val (.int p1), .val (.int p2), .val (.int p3), .val (.int p4), .val (.int p5), .val (.int la), .val (.int x0), .val (.int x1), .val (.int sm), .val (.int lb), .val (.int y0), .val (.int y1), .val (.int q2), .val (.ref sa), .val (.ref sb), .val (.int (own_b ((own_cs la x0 x1) = (own_cs lb y0 y1)))), .val (.int (own_b ((own_cs la x0 x1) = (own_cs lb y0 y1) ∧ p3 = q2))), .val (.ref bx), .val (.ref by_), .val (.ref sa)] [(.ref by_), (.ref bx)])) rfl (by rw [hml]; rfl) (Steps.refl _) (argsL := [(.ref by_)]) (rest := []) (lenOf pd_4 rfl) rfl (by show 2 * 0 + _ ≤ _; exact Nat.le_of_eq rfl) (hb hby at_231) (fun _ _ => ⟨rfl, rfl, (by decide : 18 + 0 ≤ _), (by decide : 52 + 0 ≤ _)⟩)
                dsimp only [Pt.U, Pt.locs, Pt.cells, Pt.slots] at X1042 l1042 y1042 z1042 st1042 hQ1042
                subst l1042 y1042 z1042
                obtain ⟨rfl, N1042q, e1042⟩ := hQ1042
                have N1042 := Fr.app N1041 N1042q
                refine goV (T' := T1042) (g' := (mkF m 234 #[.val (.int p1), .val (.int p2), .val (.int p3), .val (.int p4), .val (.int p5), .val (.int la), .val (.int x0), .val (.int x1), .val (.int sm), .val (.int lb), .val (.int y0), .val (.int y1), .val (.int q2), .val (.ref sa), .val (.ref sb), .val (.int (own_b ((own_cs la x0 x1) = (own_cs lb y0 y1)))), .val (.int (own_b ((own_cs la x0 x1) = (own_cs lb y0 y1) ∧ p3 = q2))), .val (.ref bx), .val (.ref by_), .val (.ref sa)] [(.int (own_b ((own_cs la x0 x1) = (own_cs lb y0 y1) ∧ p3 = q2)))])) st1042 ?_
                refine go (T' := T1042) (g' := (mkF m 236 #[.val (.int p1), .val (.int p2), .val (.int p3), .val (.int p4), .val (.int p5), .val (.int la), .val (.int x0), .val (.int x1), .val (.int sm), .val (.int lb), .val (.int y0), .val (.int y1), .val (.int q2), .val (.ref sa), .val (.ref sb), .val (.int (own_b ((own_cs la x0 x1) = (own_cs lb y0 y1)))), .val (.int (own_b ((own_cs la x0 x1) = (own_cs lb y0 y1) ∧ p3 = q2))), .val (.ref bx), .val (.ref by_), .val (.ref sa)] [(.int (own_b ((own_cs la x0 x1) = (own_cs lb y0 y1) ∧ p3 = q2))), (.int (own_b ((own_cs la x0 x1) = (own_cs lb y0 y1) ∧ p3 = q2)))])) (fun t kt => XS.iload X1042.here hx rfl (hb hby at_234) rfl kt) ?_
                refine go (T' := T1042) (g' := (mkF m 239 #[.val (.int p1), .val (.int p2), .val (.int p3), .val (.int p4), .val (.int p5), .val (.int la), .val (.int x0), .val (.int x1), .val (.int sm), .val (.int lb), .val (.int y0), .val (.int y1), .val (.int q2), .val (.ref sa), .val (.ref sb), .val (.int (own_b ((own_cs la x0 x1) = (own_cs lb y0 y1)))), .val (.int (own_b ((own_cs la x0 x1) = (own_cs lb y0 y1) ∧ p3 = q2))), .val (.ref bx), .val (.ref by_), .val (.ref sa)] [])) (fun t kt => XS.icmpNo X1042.here hx rfl (hb hby at_236) rfl (teq rfl).2 kt) ?_
                refine go (T' := T1042) (g' := (mkF m 241 #[.val (.int p1), .val (.int p2), .val (.int p3), .val (.int p4), .val (.int p5), .val (.int la), .val (.int x0), .val (.int x1), .val (.int sm), .val (.int lb), .val (.int y0), .val (.int y1), .val (.int q2), .val (.ref sa), .val (.ref sb), .val (.int (own_b ((own_cs la x0 x1) = (own_cs lb y0 y1)))), .val (.int (own_b ((own_cs la x0 x1) = (own_cs lb y0 y1) ∧ p3 = q2))), .val (.ref bx), .val (.ref by_), .val (.ref sa)] [(.ref by_)])) (fun t kt => XS.aload X1042.here hx rfl (hb hby at_239) rfl rfl kt) ?_
                refine go (T' := T1042) (g' := (mkF m 243 #[.val (.int p1), .val (.int p2), .val (.int p3), .val (.int p4), .val (.int p5), .val (.int la), .val (.int x0), .val (.int x1), .val (.int sm), .val (.int lb), .val (.int y0), .val (.int y1), .val (.int q2), .val (.ref sa), .val (.ref sb), .val (.int (own_b ((own_cs la x0 x1) = (own_cs lb y0 y1)))), .val (.int (own_b ((own_cs la x0 x1) = (own_cs lb y0 y1) ∧ p3 = q2))), .val (.ref bx), .val (.ref by_), .val (.ref sa)] [(.ref bx), (.ref by_)])) (fun t kt => XS.aload X1042.here hx rfl (hb hby at_241) rfl rfl kt) ?_
                obtain ⟨cq1043, kq1043, q1043a, q1043b, q1043c⟩ := isOf hZ1041 e1042 fE_by__1041
                obtain ⟨_, _, ⟨T1043, L1043, k1043, n1043⟩, -, X1043, ⟨Lc1043, hQ1043, l1043, y1043, z1043⟩, st1043⟩ := X1042.virtualBack hx (y := (⟨"com/example/offerloom/offerloom/book/PriceGroup", "equals", "(Ljava/lang/Object;)Z"⟩ : MethodName)) (z := (⟨"com/example/offerloom/offerloom/book/PriceGroup", "equals", "(Ljava/lang/Object;)Z"⟩ : MethodName)) hown1041 (mvT hZ1041 (hw _ (List.mem_of_getElem? (i := 47) rfl))) (mvT hZ1041 (hw _ (List.mem_of_getElem? (i := 48) rfl))) (notFace_of_selects (args := #[]) (mvT hZ1041 (hw _ (List.mem_of_getElem? (i := 50) rfl)))) (mvT hZ1041 (hw _ (List.mem_of_getElem? (i := 50) rfl))) (mvT hZ1041 (hw _ (List.mem_of_getElem? (i := 49) rfl))) (by decide) (backOf (W := 0) (rm8 l Z a0 hw [] by_ bx sb sa (own_cs lb y0 y1) (own_cs la x0 x1) q2 p3 z T1041.heap n0 z1041 fO__1041 SC hz fE_by__1041 fE_bx_1041 I1041 P1041 fF_bx_id_1041 fF_bx_priority_1041 ⟨tsb, _, _, _, fE_sb_1041, fF_sb_coder_1041, fF_sb_value_1041, fA_tsb_1041, hcsb, hbsb, hlsb⟩ ⟨tsa, _, _, _, fE_sa_1041, fF_sa_coder_1041, fF_sa_value_1041, fA_tsa_1041, hcsa, hbsa, hlsa⟩) hZ1041 (hw _ (List.mem_of_getElem? (i := 51) rfl)) (hw _ (List.mem_of_getElem? (i := 28) rfl)) (by decide) (by decide)) q1043a q1043c (g := (mkF m 243 #[.val (.int p1), .val (.int p2), .val (.int p3), .val (.int p4), .val (.int p5), .val (.int la), .val (.int x0), .val (.int x1), .val (.int sm), .val (.int lb), .val (.int y0), .val (.int y1), .val (.int q2), .val (.ref sa), .val (.ref sb), .val (.int (own_b ((own_cs la x0 x1) = (own_cs lb y0 y1)))), .val (.int (own_b ((own_cs la x0 x1) = (own_cs lb y0 y1) ∧ p3 = q2))), .val (.ref bx), .val (.ref by_), .val (.ref sa)] [(.ref bx), (.ref by_)])) rfl (by rw [hml]; rfl) (Steps.refl _) (argsL := [(.ref bx)]) (rest := []) (lenOf pd_4 rfl) rfl (by show 2 * 0 + _ ≤ _; exact Nat.le_of_eq rfl) (hb hby at_243) (fun _ _ => ⟨rfl, e1042, (by decide : 18 + 0 ≤ _), (by decide : 52 + 0 ≤ _)⟩)
                dsimp only [Pt.U, Pt.locs, Pt.cells, Pt.slots] at X1043 l1043 y1043 z1043 st1043 hQ1043
                subst l1043 y1043 z1043
                obtain ⟨rfl, N1043q, e1043⟩ := hQ1043
                have N1043 := Fr.app N1042 N1043q
                refine goV (T' := T1043) (g' := (mkF m 246 #[.val (.int p1), .val (.int p2), .val (.int p3), .val (.int p4), .val (.int p5), .val (.int la), .val (.int x0), .val (.int x1), .val (.int sm), .val (.int lb), .val (.int y0), .val (.int y1), .val (.int q2), .val (.ref sa), .val (.ref sb), .val (.int (own_b ((own_cs la x0 x1) = (own_cs lb y0 y1)))), .val (.int (own_b ((own_cs la x0 x1) = (own_cs lb y0 y1) ∧ p3 = q2))), .val (.ref bx), .val (.ref by_), .val (.ref sa)] [(.int (own_b ((own_cs lb y0 y1) = (own_cs la x0 x1) ∧ q2 = p3)))])) st1043 ?_
                refine goEq (g' := (mkF m 246 #[.val (.int p1), .val (.int p2), .val (.int p3), .val (.int p4), .val (.int p5), .val (.int la), .val (.int x0), .val (.int x1), .val (.int sm), .val (.int lb), .val (.int y0), .val (.int y1), .val (.int q2), .val (.ref sa), .val (.ref sb), .val (.int (own_b ((own_cs la x0 x1) = (own_cs lb y0 y1)))), .val (.int (own_b ((own_cs la x0 x1) = (own_cs lb y0 y1) ∧ p3 = q2))), .val (.ref bx), .val (.ref by_), .val (.ref sa)] [(.int (own_b ((own_cs la x0 x1) = (own_cs lb y0 y1) ∧ p3 = q2)))])) (by rw [own_bc (show ((own_cs lb y0 y1) = (own_cs la x0 x1) ∧ q2 = p3) ↔ ((own_cs la x0 x1) = (own_cs lb y0 y1) ∧ p3 = q2) from ⟨fun k => ⟨k.1.symm, k.2.symm⟩, fun k => ⟨k.1.symm, k.2.symm⟩⟩)]) ?_
                refine go (T' := T1043) (g' := (mkF m 248 #[.val (.int p1), .val (.int p2), .val (.int p3), .val (.int p4), .val (.int p5), .val (.int la), .val (.int x0), .val (.int x1), .val (.int sm), .val (.int lb), .val (.int y0), .val (.int y1), .val (.int q2), .val (.ref sa), .val (.ref sb), .val (.int (own_b ((own_cs la x0 x1) = (own_cs lb y0 y1)))), .val (.int (own_b ((own_cs la x0 x1) = (own_cs lb y0 y1) ∧ p3 = q2))), .val (.ref bx), .val (.ref by_), .val (.ref sa)] [(.int (own_b ((own_cs la x0 x1) = (own_cs lb y0 y1) ∧ p3 = q2))), (.int (own_b ((own_cs la x0 x1) = (own_cs lb y0 y1) ∧ p3 = q2)))])) (fun t kt => XS.iload X1043.here hx rfl (hb hby at_246) rfl kt) ?_
                refine go (T' := T1043) (g' := (mkF m 251 #[.val (.int p1), .val (.int p2), .val (.int p3), .val (.int p4), .val (.int p5), .val (.int la), .val (.int x0), .val (.int x1), .val (.int sm), .val (.int lb), .val (.int y0), .val (.int y1), .val (.int q2), .val (.ref sa), .val (.ref sb), .val (.int (own_b ((own_cs la x0 x1) = (own_cs lb y0 y1)))), .val (.int (own_b ((own_cs la x0 x1) = (own_cs lb y0 y1) ∧ p3 = q2))), .val (.ref bx), .val (.ref by_), .val (.ref sa)] [])) (fun t kt => XS.icmpNo X1043.here hx rfl (hb hby at_248) rfl (teq rfl).2 kt) ?_
                refine go (T' := T1043) (g' := (mkF m 253 #[.val (.int p1), .val (.int p2), .val (.int p3), .val (.int p4), .val (.int p5), .val (.int la), .val (.int x0), .val (.int x1), .val (.int sm), .val (.int lb), .val (.int y0), .val (.int y1), .val (.int q2), .val (.ref sa), .val (.ref sb), .val (.int (own_b ((own_cs la x0 x1) = (own_cs lb y0 y1)))), .val (.int (own_b ((own_cs la x0 x1) = (own_cs lb y0 y1) ∧ p3 = q2))), .val (.ref bx), .val (.ref by_), .val (.ref sa)] [(.ref bx)])) (fun t kt => XS.aload X1043.here hx rfl (hb hby at_251) rfl rfl kt) ?_
                refine go (T' := T1043) (g' := (mkF m 255 #[.val (.int p1), .val (.int p2), .val (.int p3), .val (.int p4), .val (.int p5), .val (.int la), .val (.int x0), .val (.int x1), .val (.int sm), .val (.int lb), .val (.int y0), .val (.int y1), .val (.int q2), .val (.ref sa), .val (.ref sb), .val (.int (own_b ((own_cs la x0 x1) = (own_cs lb y0 y1)))), .val (.int (own_b ((own_cs la x0 x1) = (own_cs lb y0 y1) ∧ p3 = q2))), .val (.ref bx), .val (.ref by_), .val (.ref sa)] [(.ref bx), (.ref bx)])) (fun t kt => XS.aload X1043.here hx rfl (hb hby at_253) rfl rfl kt) ?_
                obtain ⟨cq1044, kq1044, q1044a, q1044b, q1044c⟩ := isOf hZ1041 e1043 fE_bx_1041
                obtain ⟨_, _, ⟨T1044, L1044, k1044, n1044⟩, -, X1044, ⟨Lc1044, hQ1044, l1044, y1044, z1044⟩, st1044⟩ := X1043.virtualBack hx (y := (⟨"com/example/offerloom/offerloom/book/PriceGroup", "equals", "(Ljava/lang/Object;)Z"⟩ : MethodName)) (z := (⟨"com/example/offerloom/offerloom/book/PriceGroup", "equals", "(Ljava/lang/Object;)Z"⟩ : MethodName)) hown1041 (mvT hZ1041 (hw _ (List.mem_of_getElem? (i := 47) rfl))) (mvT hZ1041 (hw _ (List.mem_of_getElem? (i := 48) rfl))) (notFace_of_selects (args := #[]) (mvT hZ1041 (hw _ (List.mem_of_getElem? (i := 50) rfl)))) (mvT hZ1041 (hw _ (List.mem_of_getElem? (i := 50) rfl))) (mvT hZ1041 (hw _ (List.mem_of_getElem? (i := 49) rfl))) (by decide) (backOf (W := 0) (rm8 l Z a0 hw [] bx bx sa sa (own_cs la x0 x1) (own_cs la x0 x1) p3 p3 z T1041.heap n0 z1041 fO__1041 SC hz fE_bx_1041 fE_bx_1041 fF_bx_id_1041 fF_bx_priority_1041 fF_bx_id_1041 fF_bx_priority_1041 ⟨tsa, _, _, _, fE_sa_1041, fF_sa_coder_1041, fF_sa_value_1041, fA_tsa_1041, hcsa, hbsa, hlsa⟩ ⟨tsa, _, _, _, fE_sa_1041, fF_sa_coder_1041, fF_sa_value_1041, fA_tsa_1041, hcsa, hbsa, hlsa⟩) hZ1041 (hw _ (List.mem_of_getElem? (i := 51) rfl)) (hw _ (List.mem_of_getElem? (i := 28) rfl)) (by decide) (by decide)) q1044a q1044c (g := (mkF m 255 #[.val (.int p1), .val (.int p2), .val (.int p3), .val (.int p4), .val (.int p5), .val (.int la), .val (.int x0), .val (.int x1), .val (.int sm), .val (.int lb), .val (.int y0), .val (.int y1), .val (.int q2), .val (.ref sa), .val (.ref sb), .val (.int (own_b ((own_cs la x0 x1) = (own_cs lb y0 y1)))), .val (.int (own_b ((own_cs la x0 x1) = (own_cs lb y0 y1) ∧ p3 = q2))), .val (.ref bx), .val (.ref by_), .val (.ref sa)] [(.ref bx), (.ref bx)])) rfl (by rw [hml]; rfl) (Steps.refl _) (argsL := [(.ref bx)]) (rest := []) (lenOf pd_4 rfl) rfl (by show 2 * 0 + _ ≤ _; exact Nat.le_of_eq rfl) (hb hby at_255) (fun _ _ => ⟨rfl, e1043, (by decide : 18 + 0 ≤ _), (by decide : 52 + 0 ≤ _)⟩)
                dsimp only [Pt.U, Pt.locs, Pt.cells, Pt.slots] at X1044 l1044 y1044 z1044 st1044 hQ1044
                subst l1044 y1044 z1044
                obtain ⟨rfl, N1044q, e1044⟩ := hQ1044
                have N1044 := Fr.app N1043 N1044q
                refine goV (T' := T1044) (g' := (mkF m 258 #[.val (.int p1), .val (.int p2), .val (.int p3), .val (.int p4), .val (.int p5), .val (.int la), .val (.int x0), .val (.int x1), .val (.int sm), .val (.int lb), .val (.int y0), .val (.int y1), .val (.int q2), .val (.ref sa), .val (.ref sb), .val (.int (own_b ((own_cs la x0 x1) = (own_cs lb y0 y1)))), .val (.int (own_b ((own_cs la x0 x1) = (own_cs lb y0 y1) ∧ p3 = q2))), .val (.ref bx), .val (.ref by_), .val (.ref sa)] [(.int (own_b ((own_cs la x0 x1) = (own_cs la x0 x1) ∧ p3 = p3)))])) st1044 ?_
                refine go (T' := T1044) (g' := (mkF m 261 #[.val (.int p1), .val (.int p2), .val (.int p3), .val (.int p4), .val (.int p5), .val (.int la), .val (.int x0), .val (.int x1), .val (.int sm), .val (.int lb), .val (.int y0), .val (.int y1), .val (.int q2), .val (.ref sa), .val (.ref sb), .val (.int (own_b ((own_cs la x0 x1) = (own_cs lb y0 y1)))), .val (.int (own_b ((own_cs la x0 x1) = (own_cs lb y0 y1) ∧ p3 = q2))), .val (.ref bx), .val (.ref by_), .val (.ref sa)] [])) (fun t kt => XS.ifNo X1044.here hx rfl (hb hby at_258) rfl ((if0 _ _).trans (feq (by rw [own_b1 ⟨rfl, rfl⟩]; decide)).1) kt) ?_
                refine go (T' := T1044) (g' := (mkF m 263 #[.val (.int p1), .val (.int p2), .val (.int p3), .val (.int p4), .val (.int p5), .val (.int la), .val (.int x0), .val (.int x1), .val (.int sm), .val (.int lb), .val (.int y0), .val (.int y1), .val (.int q2), .val (.ref sa), .val (.ref sb), .val (.int (own_b ((own_cs la x0 x1) = (own_cs lb y0 y1)))), .val (.int (own_b ((own_cs la x0 x1) = (own_cs lb y0 y1) ∧ p3 = q2))), .val (.ref bx), .val (.ref by_), .val (.ref sa)] [(.ref bx)])) (fun t kt => XS.aload X1044.here hx rfl (hb hby at_261) rfl rfl kt) ?_
                refine go (T' := T1044) (g' := (mkF m 264 #[.val (.int p1), .val (.int p2), .val (.int p3), .val (.int p4), .val (.int p5), .val (.int la), .val (.int x0), .val (.int x1), .val (.int sm), .val (.int lb), .val (.int y0), .val (.int y1), .val (.int q2), .val (.ref sa), .val (.ref sb), .val (.int (own_b ((own_cs la x0 x1) = (own_cs lb y0 y1)))), .val (.int (own_b ((own_cs la x0 x1) = (own_cs lb y0 y1) ∧ p3 = q2))), .val (.ref bx), .val (.ref by_), .val (.ref sa)] [.null, (.ref bx)])) (fun t kt => XS.aconstNull X1044.here hx rfl (hb hby at_263) kt) ?_
                obtain ⟨cq1045, kq1045, q1045a, q1045b, q1045c⟩ := isOf hZ1041 e1044 fE_bx_1041
                obtain ⟨_, _, ⟨T1045, L1045, k1045, n1045⟩, -, X1045, ⟨Lc1045, hQ1045, l1045, y1045, z1045⟩, st1045⟩ := X1044.virtualBack hx (y := (⟨"com/example/offerloom/offerloom/book/PriceGroup", "equals", "(Ljava/lang/Object;)Z"⟩ : MethodName)) (z := (⟨"com/example/offerloom/offerloom/book/PriceGroup", "equals", "(Ljava/lang/Object;)Z"⟩ : MethodName)) hown1041 (mvT hZ1041 (hw _ (List.mem_of_getElem? (i := 47) rfl))) (mvT hZ1041 (hw _ (List.mem_of_getElem? (i := 48) rfl))) (notFace_of_selects (args := #[]) (mvT hZ1041 (hw _ (List.mem_of_getElem? (i := 50) rfl)))) (mvT hZ1041 (hw _ (List.mem_of_getElem? (i := 50) rfl))) (mvT hZ1041 (hw _ (List.mem_of_getElem? (i := 49) rfl))) (by decide) (backOf (W := 0) (rm8n l Z a0 hw [] bx T1041.heap n0 z1041) hZ1041 (hw _ (List.mem_of_getElem? (i := 51) rfl)) (hw _ (List.mem_of_getElem? (i := 28) rfl)) (by decide) (by decide)) q1045a q1045c (g := (mkF m 264 #[.val (.int p1), .val (.int p2), .val (.int p3), .val (.int p4), .val (.int p5), .val (.int la), .val (.int x0), .val (.int x1), .val (.int sm), .val (.int lb), .val (.int y0), .val (.int y1), .val (.int q2), .val (.ref sa), .val (.ref sb), .val (.int (own_b ((own_cs la x0 x1) = (own_cs lb y0 y1)))), .val (.int (own_b ((own_cs la x0 x1) = (own_cs lb y0 y1) ∧ p3 = q2))), .val (.ref bx), .val (.ref by_), .val (.ref sa)] [.null, (.ref bx)])) rfl (by rw [hml]; rfl) (Steps.refl _) (argsL := [.null]) (rest := []) (lenOf pd_4 rfl) rfl (by show 2 * 0 + _ ≤ _; exact Nat.le_of_eq rfl) (hb hby at_264) (fun _ _ => ⟨rfl, e1044, (by decide : 18 + 0 ≤ _), (by decide : 52 + 0 ≤ _)⟩)
                dsimp only [Pt.U, Pt.locs, Pt.cells, Pt.slots] at X1045 l1045 y1045 z1045 st1045 hQ1045
                subst l1045 y1045 z1045
                obtain ⟨rfl, N1045q, e1045⟩ := hQ1045
                have N1045 := Fr.app N1044 N1045q
                refine goV (T' := T1045) (g' := (mkF m 267 #[.val (.int p1), .val (.int p2), .val (.int p3), .val (.int p4), .val (.int p5), .val (.int la), .val (.int x0), .val (.int x1), .val (.int sm), .val (.int lb), .val (.int y0), .val (.int y1), .val (.int q2), .val (.ref sa), .val (.ref sb), .val (.int (own_b ((own_cs la x0 x1) = (own_cs lb y0 y1)))), .val (.int (own_b ((own_cs la x0 x1) = (own_cs lb y0 y1) ∧ p3 = q2))), .val (.ref bx), .val (.ref by_), .val (.ref sa)] [(.int (0 : Int32))])) st1045 ?_
                refine go (T' := T1045) (g' := (mkF m 270 #[.val (.int p1), .val (.int p2), .val (.int p3), .val (.int p4), .val (.int p5), .val (.int la), .val (.int x0), .val (.int x1), .val (.int sm), .val (.int lb), .val (.int y0), .val (.int y1), .val (.int q2), .val (.ref sa), .val (.ref sb), .val (.int (own_b ((own_cs la x0 x1) = (own_cs lb y0 y1)))), .val (.int (own_b ((own_cs la x0 x1) = (own_cs lb y0 y1) ∧ p3 = q2))), .val (.ref bx), .val (.ref by_), .val (.ref sa)] [])) (fun t kt => XS.ifNo X1045.here hx rfl (hb hby at_267) rfl ((if0 _ _).trans (teq rfl).2) kt) ?_
                refine go (T' := T1045) (g' := (mkF m 272 #[.val (.int p1), .val (.int p2), .val (.int p3), .val (.int p4), .val (.int p5), .val (.int la), .val (.int x0), .val (.int x1), .val (.int sm), .val (.int lb), .val (.int y0), .val (.int y1), .val (.int q2), .val (.ref sa), .val (.ref sb), .val (.int (own_b ((own_cs la x0 x1) = (own_cs lb y0 y1)))), .val (.int (own_b ((own_cs la x0 x1) = (own_cs lb y0 y1) ∧ p3 = q2))), .val (.ref bx), .val (.ref by_), .val (.ref sa)] [(.ref bx)])) (fun t kt => XS.aload X1045.here hx rfl (hb hby at_270) rfl rfl kt) ?_
                refine go (T' := T1045) (g' := (mkF m 274 #[.val (.int p1), .val (.int p2), .val (.int p3), .val (.int p4), .val (.int p5), .val (.int la), .val (.int x0), .val (.int x1), .val (.int sm), .val (.int lb), .val (.int y0), .val (.int y1), .val (.int q2), .val (.ref sa), .val (.ref sb), .val (.int (own_b ((own_cs la x0 x1) = (own_cs lb y0 y1)))), .val (.int (own_b ((own_cs la x0 x1) = (own_cs lb y0 y1) ∧ p3 = q2))), .val (.ref bx), .val (.ref by_), .val (.ref sa)] [(.ref sa), (.ref bx)])) (fun t kt => XS.aload X1045.here hx rfl (hb hby at_272) rfl rfl kt) ?_
                obtain ⟨cq1046, kq1046, q1046a, q1046b, q1046c⟩ := isOf hZ1041 e1045 fE_bx_1041
                obtain ⟨_, _, ⟨T1046, L1046, k1046, n1046⟩, -, X1046, ⟨Lc1046, hQ1046, l1046, y1046, z1046⟩, st1046⟩ := X1045.virtualBack hx (y := (⟨"com/example/offerloom/offerloom/book/PriceGroup", "equals", "(Ljava/lang/Object;)Z"⟩ : MethodName)) (z := (⟨"com/example/offerloom/offerloom/book/PriceGroup", "equals", "(Ljava/lang/Object;)Z"⟩ : MethodName)) hown1041 (mvT hZ1041 (hw _ (List.mem_of_getElem? (i := 47) rfl))) (mvT hZ1041 (hw _ (List.mem_of_getElem? (i := 48) rfl))) (notFace_of_selects (args := #[]) (mvT hZ1041 (hw _ (List.mem_of_getElem? (i := 50) rfl)))) (mvT hZ1041 (hw _ (List.mem_of_getElem? (i := 50) rfl))) (mvT hZ1041 (hw _ (List.mem_of_getElem? (i := 49) rfl))) (by decide) (backOf (W := 0) (rm8s l Z a0 hw [] bx sa T1041.heap n0 z1041 fE_sa_1041) hZ1041 (hw _ (List.mem_of_getElem? (i := 51) rfl)) (hw _ (List.mem_of_getElem? (i := 28) rfl)) (by decide) (by decide)) q1046a q1046c (g := (mkF m 274 #[.val (.int p1), .val (.int p2), .val (.int p3), .val (.int p4), .val (.int p5), .val (.int la), .val (.int x0), .val (.int x1), .val (.int sm), .val (.int lb), .val (.int y0), .val (.int y1), .val (.int q2), .val (.ref sa), .val (.ref sb), .val (.int (own_b ((own_cs la x0 x1) = (own_cs lb y0 y1)))), .val (.int (own_b ((own_cs la x0 x1) = (own_cs lb y0 y1) ∧ p3 = q2))), .val (.ref bx), .val (.ref by_), .val (.ref sa)] [(.ref sa), (.ref bx)])) rfl (by rw [hml]; rfl) (Steps.refl _) (argsL := [(.ref sa)]) (rest := []) (lenOf pd_4 rfl) rfl (by show 2 * 0 + _ ≤ _; exact Nat.le_of_eq rfl) (hb hby at_274) (fun _ _ => ⟨rfl, e1045, (by decide : 18 + 0 ≤ _), (by decide : 52 + 0 ≤ _)⟩)
                dsimp only [Pt.U, Pt.locs, Pt.cells, Pt.slots] at X1046 l1046 y1046 z1046 st1046 hQ1046
                subst l1046 y1046 z1046
                obtain ⟨rfl, N1046q, e1046⟩ := hQ1046
                have N1046 := Fr.app N1045 N1046q
                refine goV (T' := T1046) (g' := (mkF m 277 #[.val (.int p1), .val (.int p2), .val (.int p3), .val (.int p4), .val (.int p5), .val (.int la), .val (.int x0), .val (.int x1), .val (.int sm), .val (.int lb), .val (.int y0), .val (.int y1), .val (.int q2), .val (.ref sa), .val (.ref sb), .val (.int (own_b ((own_cs la x0 x1) = (own_cs lb y0 y1)))), .val (.int (own_b ((own_cs la x0 x1) = (own_cs lb y0 y1) ∧ p3 = q2))), .val (.ref bx), .val (.ref by_), .val (.ref sa)] [(.int (0 : Int32))])) st1046 ?_
                refine go (T' := T1046) (g' := (mkF m 280 #[.val (.int p1), .val (.int p2), .val (.int p3), .val (.int p4), .val (.int p5), .val (.int la), .val (.int x0), .val (.int x1), .val (.int sm), .val (.int lb), .val (.int y0), .val (.int y1), .val (.int q2), .val (.ref sa), .val (.ref sb), .val (.int (own_b ((own_cs la x0 x1) = (own_cs lb y0 y1)))), .val (.int (own_b ((own_cs la x0 x1) = (own_cs lb y0 y1) ∧ p3 = q2))), .val (.ref bx), .val (.ref by_), .val (.ref sa)] [])) (fun t kt => XS.ifNo X1046.here hx rfl (hb hby at_277) rfl ((if0 _ _).trans (teq rfl).2) kt) ?_
                refine go (T' := T1046) (g' := (mkF m 281 #[.val (.int p1), .val (.int p2), .val (.int p3), .val (.int p4), .val (.int p5), .val (.int la), .val (.int x0), .val (.int x1), .val (.int sm), .val (.int lb), .val (.int y0), .val (.int y1), .val (.int q2), .val (.ref sa), .val (.ref sb), .val (.int (own_b ((own_cs la x0 x1) = (own_cs lb y0 y1)))), .val (.int (own_b ((own_cs la x0 x1) = (own_cs lb y0 y1) ∧ p3 = q2))), .val (.ref bx), .val (.ref by_), .val (.ref sa)] [(.int (1 : Int32))])) (fun t kt => XS.iconst X1046.here hx rfl (hb hby at_280) kt) ?_
                refine go (T' := T1046) (g' := (mkF m 285 #[.val (.int p1), .val (.int p2), .val (.int p3), .val (.int p4), .val (.int p5), .val (.int la), .val (.int x0), .val (.int x1), .val (.int sm), .val (.int lb), .val (.int y0), .val (.int y1), .val (.int q2), .val (.ref sa), .val (.ref sb), .val (.int (own_b ((own_cs la x0 x1) = (own_cs lb y0 y1)))), .val (.int (own_b ((own_cs la x0 x1) = (own_cs lb y0 y1) ∧ p3 = q2))), .val (.ref bx), .val (.ref by_), .val (.ref sa)] [(.int (1 : Int32))])) (fun t kt => XS.goto X1046.here hx rfl (pc0 := 281) (pc' := 285) rfl (hb hby at_281) (by decide) (by decide) kt) ?_
                refine goRetNW X1046 hx hlk hS1041 (by rw [e1046]; exact (Nat.le_refl _)) (t := .boolean) Bd.returns (by simp) (hb hby at_285) ?_ (by decide) (by decide)
                rw [e1046]
                exact ⟨rfl, N1046⟩
set_option maxRecDepth 65536 in
set_option maxHeartbeats 40000000 in
theorem comes_1 {Post : Tables → Env → Array Value → State → Outcome → State → Prop} (hpost : ∀ tb e args s v u, (limb_1_1.after args s (.returned v) u = true ∧ limb_1_2.after args s (.returned v) u = true ∧ True) → ReturnedEndW s (.returned v) u (Jvm.fieldLocs frame_1_writes args s ++ Jvm.arrayLocs frame_1_arrays args s ++ Jvm.staticLocs frame_1_statics s) 32 2176 → Post tb e args s (.returned v) u) :
    ArmFor flags0 classFile x code maxLocals ret World_1 tables_1 room_1 Calls_1 rest_1 Pre_1 Post := by
  intro l hfl _ _ p e ha hc hk s m args below hf hA hF happ hP
  obtain ⟨hcalls, hrest, hpre⟩ := hP
  obtain ⟨-, -, -, hnamed, -, -, -, hat⟩ := (Spec.applies_iff hf).mp happ
  obtain ⟨hg, hn⟩ := and_e (Cond.before_iff.mp (show (Jvm.Cond.and given_1 narrow_1).before args s = true from hpre))
  obtain ⟨g2, g2'⟩ := and_e hg
  obtain ⟨g4, g4'⟩ := and_e g2'
  obtain ⟨g6, g6'⟩ := and_e g4'
  obtain ⟨g8, g8'⟩ := and_e g6'
  obtain ⟨g10, g10'⟩ := and_e g8'
  obtain ⟨w0, w1, w2, w3, w4, rfl⟩ : ∃ w0 w1 w2 w3 w4 : Value, args = #[w0, w1, w2, w3, w4] := by
    have hs : args.size = 5 := by simpa [Cond.value, given_1] using g2
    obtain ⟨L⟩ := args
    match L, hs with
    | [w0, w1, w2, w3, w4], _ => exact ⟨w0, w1, w2, w3, w4, rfl⟩
  have hw := fun d (hd : d ∈ tables_1) => atoms_spec (ws := Jvm.Cond.code x code maxLocals ret :: tables_1) hat d (List.mem_cons_of_mem _ hd)
  have hfit : Fit s := fun {y c} hc i hi => by
    obtain ⟨ha, rfl⟩ := Array.getElem?_eq_some_iff.mp hc
    have q := List.all_eq_true.mp ((Array.all_eq_true_iff_forall_mem.mp hF) _ (Array.getElem_mem ha)) i (List.mem_range.mpr hi)
    simpa [Array.getElem?_eq_getElem hi] using q
  obtain ⟨hsets, hown0⟩ := atoms_of _ (rest_1_c_eq ▸ (show rest_1_c.before _ s = true from hrest))
  have hr0 := Cond.before_iff.mp hown0
  obtain ⟨i0, ei0⟩ := is_v g4
  obtain rfl : w0 = (.int i0) := Option.some.inj ei0
  obtain ⟨i1, ei1⟩ := is_v g6
  obtain rfl : w1 = (.int i1) := Option.some.inj ei1
  obtain ⟨i2, ei2⟩ := is_v g8
  obtain rfl : w2 = (.int i2) := Option.some.inj ei2
  obtain ⟨i3, ei3⟩ := is_v g10
  obtain rfl : w3 = (.int i3) := Option.some.inj ei3
  obtain ⟨i4, ei4⟩ := is_v g10'
  obtain rfl : w4 = (.int i4) := Option.some.inj ei4
  obtain ⟨cz, ecs⟩ := is_v (Cond.before_iff.mp (hsets _ (List.mem_of_getElem? (i := 1) rfl)))
  have SC : Sta s s.heap "java/lang/String" "COMPACT_STRINGS" "Z" (.int cz) := Sta.start ecs (Or.inl (hsets _ (List.mem_of_getElem? (i := 0) rfl)))
  have hcs : ¬ (cz = (0 : Int32)) := gotF (Cond.eq_ints ecs (Term.int_eval (0))) (not_v (Cond.before_iff.mp (hsets _ (List.mem_of_getElem? (i := 2) rfl))))
  have hcv : CHv s own_EL s.vm s.heap := CHv.start (own_EW hw) (fun q hq => by
    cases List.mem_singleton.mp hq
    exact hcalls.1 ("java/lang/String", 7) (List.mem_of_getElem? (i := 1) rfl)) (hsets _ (List.mem_of_getElem? (i := 2) rfl)) (hw _ (List.mem_of_getElem? (i := 19) rfl)) (hw _ (List.mem_of_getElem? (i := 5) rfl))
  obtain ⟨n, o, h1, h2, h3, _, L, rfl, ⟨rfl, N⟩, hq⟩ := rm0 l s _ hw tables_1 i0 i1 i2 i3 i4 cz s.heap s.heap.size (Nat.le_refl _) (Old.start s) SC hcs p e ha hc hk s m _ below hf ((Spec.applies_iff_loose hf).mp happ).1 ⟨rfl, State.Warmed39.refl s, rfl, hcv⟩ trivial
  refine ⟨n, _, h1, h2, h3, hpost _ _ _ _ _ _ ⟨Cond.after_iff.mpr rfl, Cond.after_iff.mpr (eq_i res_at (Term.int_eval (1)) rfl), trivial⟩ ⟨hq.1, hq.2.1, hq.2.2.1, (hq.2.2.2.sift fun y hy => Or.inr (N y hy)).mono (by decide) (by decide)⟩⟩
theorem main_1_1 : Claimed_1_1 := comes_1 fun _ _ _ _ _ _ h hF => ⟨h.1, hF⟩
theorem main_1_2 : Claimed_1_2 := comes_1 fun _ _ _ _ _ _ h hF => ⟨h.2.1, hF⟩
end Jvm.Pilot.@@N@@
namespace Jvm.Pilot.@@N@@
open Jvm Jvm.ClassFile Sem Op Lib Jvm.Free Jvm.Stand Jvm.Pilot.@@N@@.Jvm.D
/-! MADE BY PROGRAM (witnessworld.py) out of the Statement's table words and the real class files: 22 classes; the members and pool entries that the words name. The judged class is class 1, her method 2. -/
namespace start1
open Jvm.ClassFile
def u (s : String) : CpInfo := .utf8 (stringToUtf16 s)
/-- a pool by its gaps: so many unusable entries, then the entry; so many at the end -/
def gap : Nat → List CpInfo → List CpInfo
  | 0, r => r
  | n + 1, r => .unusable :: gap n r
def poolList (es : List (Nat × CpInfo)) (last : Nat) : List CpInfo := es.foldr (fun e r => gap e.1 (e.2 :: r)) (gap last [])
def pool (es : List (Nat × CpInfo)) (last : Nat) : Array CpInfo := ⟨poolList es last⟩
def fileOf (pool : Array CpInfo) (this : Nat) (attrs : Array Attribute := #[]) (ms : Array MethodInfo := #[]) (fl : Nat := 33) (sup : Nat := 0) (ifs : Array Nat := #[]) (fds : Array FieldInfo := #[]) : ClassFile where
  minorVersion := 0
  majorVersion := 65
  constantPool := pool
  accessFlags := fl
  thisClass := this
  superClass := sup
  interfaces := ifs
  fields := fds
  methods := ms
  attributes := attrs
def plain (name : String) (sup : Option ClassId) : Class where
  name := name
  kind := .ordinary
  loader := none
  accessFlags := 33
  super := sup
  interfaces := #[]
  cf := none
  fields := #[]
  methods := #[]
  instanceTypes := #[]
  staticTypes := #[]
  resolved := #[]
  callSites := []
  init := .initialized
  statics := none
  mirror := none

def pool0 : Array CpInfo := pool [(5, u "<init>"), (0, u "()V"), (1, .class_ 10), (1, u "java/lang/Object")] 113

def k0c0 : Code := { maxStack := 0, maxLocals := 1, code := object_method_1_code, exceptionTable := #[], attributes := #[] }
def k0m0 : Method := { name := "<init>", desc := "()V", sig := { parameters := [], returnType := none }, accessFlags := 1, code := some k0c0 }
/-- java/lang/Object -/
def k0 : Class := { plain "java/lang/Object" none with
  accessFlags := 33
  interfaces := #[]
  cf := some (fileOf pool0 8 #[] #[{ accessFlags := 1, nameIndex := 5, descriptorIndex := 6, attributes := #[] }] 33 0 #[] #[])
  fields := #[]
  methods := #[k0m0]
  instanceTypes := #[]
  staticTypes := #[]
  resolved := Array.replicate 124 none
  statics := none }

def pool1 : Array CpInfo := pool [(2, .class_ 4), (1, u "java/lang/Object"), (0, u "<init>"), (0, u "()V"), (0, .class_ 8), (0, u "java/lang/String"), (0, .methodref 7 10), (0, .nameAndType 5 11), (0, u "([C)V"), (0, .methodref 13 14), (0, .class_ 15), (0, .nameAndType 16 17), (0, u "com/example/offerloom/offerloom/book/PriceGroupEqualsPinLaw"), (0, u "mk"), (0, u "(ICC)Ljava/lang/String;"), (0, .class_ 19), (0, u "com/example/offerloom/offerloom/book/PriceGroup"), (0, .methodref 18 21), (0, .nameAndType 5 22), (0, u "(Ljava/lang/String;I)V"), (0, .methodref 18 24), (0, .nameAndType 25 26), (0, u "equals"), (0, u "(Ljava/lang/Object;)Z"), (3, u "law"), (0, u "(IIIII)Z")] 2

def k1m0 : Method := { name := "<init>", desc := "()V", sig := { parameters := [], returnType := none }, accessFlags := 1, code := none }
def k1c1 : Code := { maxStack := 6, maxLocals := 3, code := method_2_code, exceptionTable := #[], attributes := #[] }
def k1m1 : Method := { name := "mk", desc := "(ICC)Ljava/lang/String;", sig := { parameters := [.int, .char, .char], returnType := some (.object "java/lang/String") }, accessFlags := 10, code := some k1c1 }
def k1c2 : Code := { maxStack := 4, maxLocals := 20, code := code, exceptionTable := #[], attributes := #[] }
def k1m2 : Method := { name := "law", desc := "(IIIII)Z", sig := { parameters := [.int, .int, .int, .int, .int], returnType := some .boolean }, accessFlags := 9, code := some k1c2 }
/-- com/example/offerloom/offerloom/book/PriceGroupEqualsPinLaw -/
def k1 : Class := { plain "com/example/offerloom/offerloom/book/PriceGroupEqualsPinLaw" (some 0) with
  accessFlags := 49
  interfaces := #[]
  cf := some (fileOf pool1 13 #[] #[{ accessFlags := 1, nameIndex := 5, descriptorIndex := 6, attributes := #[] }, { accessFlags := 10, nameIndex := 16, descriptorIndex := 17, attributes := #[] }, { accessFlags := 9, nameIndex := 30, descriptorIndex := 31, attributes := #[] }] 49 2 #[] #[])
  fields := #[]
  methods := #[k1m0, k1m1, k1m2]
  instanceTypes := #[]
  staticTypes := #[]
  resolved := Array.replicate 34 none
  statics := none }

def pool2 : Array CpInfo := pool [(1, .class_ 2), (0, u "java/io/Serializable"), (0, .class_ 4), (0, u "java/lang/Object")] 2

/-- java/io/Serializable -/
def k2 : Class := { plain "java/io/Serializable" (some 0) with
  accessFlags := 1537
  interfaces := #[]
  cf := some (fileOf pool2 1 #[] #[] 1537 3 #[] #[])
  fields := #[]
  methods := #[]
  instanceTypes := #[]
  staticTypes := #[]
  resolved := Array.replicate 7 none
  statics := none }

def pool3 : Array CpInfo := pool [(1, .class_ 2), (0, u "java/lang/Comparable"), (0, .class_ 4), (0, u "java/lang/Object")] 7

/-- java/lang/Comparable -/
def k3 : Class := { plain "java/lang/Comparable" (some 0) with
  accessFlags := 1537
  interfaces := #[]
  cf := some (fileOf pool3 1 #[] #[] 1537 3 #[] #[])
  fields := #[]
  methods := #[]
  instanceTypes := #[]
  staticTypes := #[]
  resolved := Array.replicate 12 none
  statics := none }

def pool4 : Array CpInfo := pool [(2, .class_ 4), (1, u "java/lang/CharSequence"), (42, .class_ 48), (0, u "java/lang/CharSequence$1CodePointIterator"), (10, .class_ 60), (0, u "java/lang/CharSequence$1CharIterator"), (5, .class_ 67), (0, u "java/lang/Object")] 63

/-- java/lang/CharSequence -/
def k4 : Class := { plain "java/lang/CharSequence" (some 0) with
  accessFlags := 1537
  interfaces := #[]
  cf := some (fileOf pool4 2 #[.nestMembers #[47, 59]] #[] 1537 66 #[] #[])
  fields := #[]
  methods := #[]
  instanceTypes := #[]
  staticTypes := #[]
  resolved := Array.replicate 131 none
  statics := none }

def pool5 : Array CpInfo := pool [(1, .class_ 2), (0, u "java/lang/constant/Constable"), (0, .class_ 4), (0, u "java/lang/Object")] 6

/-- java/lang/constant/Constable -/
def k5 : Class := { plain "java/lang/constant/Constable" (some 0) with
  accessFlags := 1537
  interfaces := #[]
  cf := some (fileOf pool5 1 #[] #[] 1537 3 #[] #[])
  fields := #[]
  methods := #[]
  instanceTypes := #[]
  staticTypes := #[]
  resolved := Array.replicate 11 none
  statics := none }

def pool6 : Array CpInfo := pool [(1, .class_ 2), (0, u "java/lang/constant/ConstantDesc"), (0, .class_ 4), (0, u "java/lang/Object")] 32

/-- java/lang/constant/ConstantDesc -/
def k6 : Class := { plain "java/lang/constant/ConstantDesc" (some 0) with
  accessFlags := 1537
  interfaces := #[]
  cf := some (fileOf pool6 1 #[] #[] 1537 3 #[] #[])
  fields := #[]
  methods := #[]
  instanceTypes := #[]
  staticTypes := #[]
  resolved := Array.replicate 37 none
  statics := none }

def pool7 : Array CpInfo := pool [(1, .methodref 2 3), (0, .class_ 4), (0, .nameAndType 5 6), (0, u "java/lang/Object"), (0, u "<init>"), (0, u "()V"), (0, .string 8), (0, u ""), (0, .fieldref 10 11), (0, .class_ 12), (0, .nameAndType 13 14), (0, u "java/lang/String"), (0, u "value"), (0, u "[B"), (0, .fieldref 10 16), (0, .nameAndType 17 18), (0, u "coder"), (0, u "B"), (2, u "hash"), (0, u "I"), (2, u "hashIsZero"), (0, u "Z"), (0, .methodref 10 28), (0, .nameAndType 5 29), (0, u "([CIILjava/lang/Void;)V"), (8, .fieldref 10 39), (0, .nameAndType 40 26), (0, u "COMPACT_STRINGS"), (1, .class_ 44), (1, u "java/lang/StringUTF16"), (0, u "compress"), (1, .methodref 42 48), (0, .nameAndType 49 50), (0, u "coderFromArrayLen"), (0, u "([BI)B"), (56, .class_ 109), (1, u "java/lang/StringLatin1"), (67, .methodref 42 178), (0, .nameAndType 45 179), (0, u "([CII)[B"), (361, .methodref 107 542), (0, .nameAndType 543 544), (0, u "equals"), (0, u "([B[B)Z"), (28, u "(Ljava/lang/Object;)Z"), (1, .class_ 576), (0, u "java/lang/CharSequence"), (22, u "CASE_INSENSITIVE_ORDER"), (0, u "Ljava/util/Comparator;"), (409, u "([C)V"), (90, u "serialPersistentFields"), (0, u "[Ljava/io/ObjectStreamField;"), (0, .class_ 1104), (0, u "java/lang/String$CaseInsensitiveComparator"), (1, .class_ 1107), (0, u "java/io/Serializable"), (0, .class_ 1109), (0, u "java/lang/Comparable"), (0, .class_ 1111), (0, u "java/lang/constant/Constable"), (0, .class_ 1113), (0, u "java/lang/constant/ConstantDesc"), (2, u "serialVersionUID"), (0, u "J"), (3, u "REPL"), (0, u "C"), (2, u "LATIN1"), (1, u "UTF16")] 323

def k7m0 : Method := { name := "<init>", desc := "()V", sig := { parameters := [], returnType := none }, accessFlags := 1, code := none }
def k7c1 : Code := { maxStack := 5, maxLocals := 2, code := jdk_42_method_3_code, exceptionTable := #[], attributes := #[] }
def k7m1 : Method := { name := "<init>", desc := "([C)V", sig := { parameters := [(.array .char)], returnType := none }, accessFlags := 1, code := some k7c1 }
def k7c2 : Code := { maxStack := 2, maxLocals := 3, code := jdk_42_method_66_code, exceptionTable := #[], attributes := #[] }
def k7m2 : Method := { name := "equals", desc := "(Ljava/lang/Object;)Z", sig := { parameters := [(.object "java/lang/Object")], returnType := some .boolean }, accessFlags := 1, code := some k7c2 }
def k7c3 : Code := { maxStack := 4, maxLocals := 6, code := jdk_42_method_149_code, exceptionTable := #[], attributes := #[] }
def k7m3 : Method := { name := "<init>", desc := "([CIILjava/lang/Void;)V", sig := { parameters := [(.array .char), .int, .int, (.object "java/lang/Void")], returnType := none }, accessFlags := 2, code := some k7c3 }
/-- java/lang/String -/
def k7 : Class := { plain "java/lang/String" (some 0) with
  accessFlags := 49
  interfaces := #[2, 3, 4, 5, 6]
  cf := some (fileOf pool7 10 #[.nestMembers #[1103]] #[{ accessFlags := 1, nameIndex := 5, descriptorIndex := 6, attributes := #[] }, { accessFlags := 1, nameIndex := 5, descriptorIndex := 1010, attributes := #[] }, { accessFlags := 1, nameIndex := 543, descriptorIndex := 573, attributes := #[] }, { accessFlags := 2, nameIndex := 5, descriptorIndex := 29, attributes := #[] }] 49 2 #[1106, 1108, 575, 1110, 1112] #[{ accessFlags := 18, nameIndex := 13, descriptorIndex := 14, attributes := #[] }, { accessFlags := 18, nameIndex := 17, descriptorIndex := 18, attributes := #[] }, { accessFlags := 2, nameIndex := 21, descriptorIndex := 22, attributes := #[] }, { accessFlags := 2, nameIndex := 25, descriptorIndex := 26, attributes := #[] }, { accessFlags := 26, nameIndex := 1116, descriptorIndex := 1117, attributes := #[] }, { accessFlags := 24, nameIndex := 40, descriptorIndex := 26, attributes := #[] }, { accessFlags := 26, nameIndex := 1101, descriptorIndex := 1102, attributes := #[] }, { accessFlags := 26, nameIndex := 1121, descriptorIndex := 1122, attributes := #[] }, { accessFlags := 25, nameIndex := 599, descriptorIndex := 600, attributes := #[] }, { accessFlags := 24, nameIndex := 1125, descriptorIndex := 18, attributes := #[] }, { accessFlags := 24, nameIndex := 1127, descriptorIndex := 18, attributes := #[] }])
  fields := #[{ name := "value", type := (.array .byte), accessFlags := 18, slot := 0, constantValue := 0 }, { name := "coder", type := .byte, accessFlags := 18, slot := 1, constantValue := 0 }, { name := "hash", type := .int, accessFlags := 2, slot := 2, constantValue := 0 }, { name := "hashIsZero", type := .boolean, accessFlags := 2, slot := 3, constantValue := 0 }, { name := "serialVersionUID", type := .long, accessFlags := 26, slot := 0, constantValue := 0 }, { name := "COMPACT_STRINGS", type := .boolean, accessFlags := 24, slot := 1, constantValue := 0 }, { name := "serialPersistentFields", type := (.array (.object "java/io/ObjectStreamField")), accessFlags := 26, slot := 2, constantValue := 0 }, { name := "REPL", type := .char, accessFlags := 26, slot := 3, constantValue := 0 }, { name := "CASE_INSENSITIVE_ORDER", type := (.object "java/util/Comparator"), accessFlags := 25, slot := 4, constantValue := 0 }, { name := "LATIN1", type := .byte, accessFlags := 24, slot := 5, constantValue := 0 }, { name := "UTF16", type := .byte, accessFlags := 24, slot := 6, constantValue := 0 }]
  methods := #[k7m0, k7m1, k7m2, k7m3]
  instanceTypes := #[(.array .byte), .byte, .int, .boolean]
  staticTypes := #[.long, .boolean, (.array (.object "java/io/ObjectStreamField")), .char, (.object "java/util/Comparator"), .byte, .byte]
  resolved := Array.replicate 1451 none
  statics := some 0 }

def pool8 : Array CpInfo := pool [(1, .methodref 2 3), (0, .class_ 4), (0, .nameAndType 5 6), (0, u "java/lang/Object"), (0, u "<init>"), (0, u "()V"), (0, .class_ 8), (0, u "java/lang/Record")] 13

def k8c0 : Code := { maxStack := 1, maxLocals := 1, code := jdk_30_method_1_code, exceptionTable := #[], attributes := #[] }
def k8m0 : Method := { name := "<init>", desc := "()V", sig := { parameters := [], returnType := none }, accessFlags := 4, code := some k8c0 }
/-- java/lang/Record -/
def k8 : Class := { plain "java/lang/Record" (some 0) with
  accessFlags := 1057
  interfaces := #[]
  cf := some (fileOf pool8 7 #[] #[{ accessFlags := 4, nameIndex := 5, descriptorIndex := 6, attributes := #[] }] 1057 2 #[] #[])
  fields := #[]
  methods := #[k8m0]
  instanceTypes := #[]
  staticTypes := #[]
  resolved := Array.replicate 22 none
  statics := none }

def pool9 : Array CpInfo := pool [(1, .methodref 2 3), (0, .class_ 4), (0, .nameAndType 5 6), (0, u "java/lang/Record"), (0, u "<init>"), (0, u "()V"), (0, .string 8), (0, u "id"), (0, .methodref 10 11), (0, .class_ 12), (0, .nameAndType 13 14), (0, u "java/util/Objects"), (0, u "requireNonNull"), (0, u "(Ljava/lang/Object;Ljava/lang/String;)Ljava/lang/Object;"), (0, .fieldref 16 17), (0, .class_ 18), (0, .nameAndType 8 19), (0, u "com/example/offerloom/offerloom/book/PriceGroup"), (0, u "Ljava/lang/String;"), (0, .fieldref 16 21), (0, .nameAndType 22 23), (0, u "priority"), (0, u "I"), (14, .methodref 39 40), (0, .class_ 41), (0, .nameAndType 42 43), (0, u "java/lang/String"), (0, u "equals"), (0, u "(Ljava/lang/Object;)Z"), (8, u "(Ljava/lang/String;I)V")] 44

def k9c0 : Code := { maxStack := 2, maxLocals := 3, code := prog_35_method_1_code, exceptionTable := #[], attributes := #[] }
def k9m0 : Method := { name := "<init>", desc := "(Ljava/lang/String;I)V", sig := { parameters := [(.object "java/lang/String"), .int], returnType := none }, accessFlags := 1, code := some k9c0 }
def k9c1 : Code := { maxStack := 2, maxLocals := 3, code := prog_35_method_3_code, exceptionTable := #[], attributes := #[] }
def k9m1 : Method := { name := "equals", desc := "(Ljava/lang/Object;)Z", sig := { parameters := [(.object "java/lang/Object")], returnType := some .boolean }, accessFlags := 1, code := some k9c1 }
/-- com/example/offerloom/offerloom/book/PriceGroup -/
def k9 : Class := { plain "com/example/offerloom/offerloom/book/PriceGroup" (some 8) with
  accessFlags := 49
  interfaces := #[]
  cf := some (fileOf pool9 16 #[] #[{ accessFlags := 1, nameIndex := 5, descriptorIndex := 52, attributes := #[] }, { accessFlags := 1, nameIndex := 42, descriptorIndex := 43, attributes := #[] }] 49 2 #[] #[{ accessFlags := 18, nameIndex := 8, descriptorIndex := 19, attributes := #[] }, { accessFlags := 18, nameIndex := 22, descriptorIndex := 23, attributes := #[] }])
  fields := #[{ name := "id", type := (.object "java/lang/String"), accessFlags := 18, slot := 0, constantValue := 0 }, { name := "priority", type := .int, accessFlags := 18, slot := 1, constantValue := 0 }]
  methods := #[k9m0, k9m1]
  instanceTypes := #[(.object "java/lang/String"), .int]
  staticTypes := #[]
  resolved := Array.replicate 97 none
  statics := none }

def pool10 : Array CpInfo := pool [(2, .class_ 4), (1, u "java/lang/Object"), (0, u "<init>"), (0, u "()V"), (35, .class_ 44), (1, u "java/util/Objects"), (0, u "requireNonNull"), (48, u "(Ljava/lang/Object;Ljava/lang/String;)Ljava/lang/Object;")] 89

def k10m0 : Method := { name := "<init>", desc := "()V", sig := { parameters := [], returnType := none }, accessFlags := 2, code := none }
def k10c1 : Code := { maxStack := 3, maxLocals := 2, code := jdk_31_method_11_code, exceptionTable := #[], attributes := #[] }
def k10m1 : Method := { name := "requireNonNull", desc := "(Ljava/lang/Object;Ljava/lang/String;)Ljava/lang/Object;", sig := { parameters := [(.object "java/lang/Object"), (.object "java/lang/String")], returnType := some (.object "java/lang/Object") }, accessFlags := 9, code := some k10c1 }
/-- java/util/Objects -/
def k10 : Class := { plain "java/util/Objects" (some 0) with
  accessFlags := 49
  interfaces := #[]
  cf := some (fileOf pool10 42 #[] #[{ accessFlags := 2, nameIndex := 5, descriptorIndex := 6, attributes := #[] }, { accessFlags := 9, nameIndex := 45, descriptorIndex := 94, attributes := #[] }] 49 2 #[] #[])
  fields := #[]
  methods := #[k10m0, k10m1]
  instanceTypes := #[]
  staticTypes := #[]
  resolved := Array.replicate 184 none
  statics := none }

def pool11 : Array CpInfo := pool [(4, .class_ 6), (1, u "java/lang/Object"), (0, u "<init>"), (0, u "()V"), (5, .class_ 16), (1, u "java/lang/StringLatin1"), (104, u "$assertionsDisabled"), (0, u "Z"), (98, .class_ 223), (1, u "java/lang/StringLatin1$LinesSpliterator"), (57, u "equals"), (0, u "([B[B)Z"), (107, .class_ 391), (0, u "java/lang/StringLatin1$CharsSpliterator")] 3

def k11m0 : Method := { name := "<init>", desc := "()V", sig := { parameters := [], returnType := none }, accessFlags := 0, code := none }
def k11c1 : Code := { maxStack := 3, maxLocals := 3, code := jdk_43_method_13_code, exceptionTable := #[], attributes := #[] }
def k11m1 : Method := { name := "equals", desc := "([B[B)Z", sig := { parameters := [(.array .byte), (.array .byte)], returnType := some .boolean }, accessFlags := 9, code := some k11c1 }
/-- java/lang/StringLatin1 -/
def k11 : Class := { plain "java/lang/StringLatin1" (some 0) with
  accessFlags := 48
  interfaces := #[]
  cf := some (fileOf pool11 14 #[.nestMembers #[390, 221]] #[{ accessFlags := 0, nameIndex := 7, descriptorIndex := 8, attributes := #[] }, { accessFlags := 9, nameIndex := 281, descriptorIndex := 282, attributes := #[] }] 48 4 #[] #[{ accessFlags := 4120, nameIndex := 121, descriptorIndex := 122, attributes := #[] }])
  fields := #[{ name := "$assertionsDisabled", type := .boolean, accessFlags := 4120, slot := 0, constantValue := 0 }]
  methods := #[k11m0, k11m1]
  instanceTypes := #[]
  staticTypes := #[.boolean]
  resolved := Array.replicate 395 none
  statics := none }

def pool12 : Array CpInfo := pool [(6, .class_ 8), (1, u "java/lang/Object"), (0, u "<init>"), (0, u "()V"), (1, .class_ 14), (1, u "java/lang/StringUTF16"), (31, u "$assertionsDisabled"), (0, u "Z"), (13, u "HI_BYTE_SHIFT"), (0, u "I"), (2, u "LO_BYTE_SHIFT"), (49, .methodref 12 116), (0, .nameAndType 117 118), (0, u "compress"), (0, u "([CI[BII)I"), (3, u "([CII)[B"), (138, u "coderFromArrayLen"), (0, u "([BI)B"), (106, .class_ 371), (1, u "java/lang/StringUTF16$LinesSpliterator"), (58, u "MAX_LENGTH"), (196, .class_ 628), (0, u "java/lang/StringUTF16$CodePointsSpliterator"), (0, .class_ 630), (0, u "java/lang/StringUTF16$CharsSpliterator")] 4

def k12m0 : Method := { name := "<init>", desc := "()V", sig := { parameters := [], returnType := none }, accessFlags := 0, code := none }
def k12c1 : Code := { maxStack := 2, maxLocals := 2, code := jdk_52_method_15_code, exceptionTable := #[], attributes := #[] }
def k12m1 : Method := { name := "coderFromArrayLen", desc := "([BI)B", sig := { parameters := [(.array .byte), .int], returnType := some .byte }, accessFlags := 8, code := some k12c1 }
def k12c2 : Code := { maxStack := 5, maxLocals := 6, code := jdk_52_method_16_code, exceptionTable := #[], attributes := #[] }
def k12m2 : Method := { name := "compress", desc := "([CII)[B", sig := { parameters := [(.array .char), .int, .int], returnType := some (.array .byte) }, accessFlags := 9, code := some k12c2 }
def k12c3 : Code := { maxStack := 3, maxLocals := 7, code := jdk_52_method_21_code, exceptionTable := #[], attributes := #[] }
def k12m3 : Method := { name := "compress", desc := "([CI[BII)I", sig := { parameters := [(.array .char), .int, (.array .byte), .int, .int], returnType := some .int }, accessFlags := 9, code := some k12c3 }
/-- java/lang/StringUTF16 -/
def k12 : Class := { plain "java/lang/StringUTF16" (some 0) with
  accessFlags := 48
  interfaces := #[]
  cf := some (fileOf pool12 12 #[.nestMembers #[627, 629, 369]] #[{ accessFlags := 0, nameIndex := 9, descriptorIndex := 10, attributes := #[] }, { accessFlags := 8, nameIndex := 261, descriptorIndex := 262, attributes := #[] }, { accessFlags := 9, nameIndex := 117, descriptorIndex := 122, attributes := #[] }, { accessFlags := 9, nameIndex := 117, descriptorIndex := 118, attributes := #[] }] 48 6 #[] #[{ accessFlags := 26, nameIndex := 61, descriptorIndex := 62, attributes := #[] }, { accessFlags := 26, nameIndex := 65, descriptorIndex := 62, attributes := #[] }, { accessFlags := 24, nameIndex := 430, descriptorIndex := 62, attributes := #[] }, { accessFlags := 4120, nameIndex := 46, descriptorIndex := 47, attributes := #[] }])
  fields := #[{ name := "HI_BYTE_SHIFT", type := .int, accessFlags := 26, slot := 0, constantValue := 0 }, { name := "LO_BYTE_SHIFT", type := .int, accessFlags := 26, slot := 1, constantValue := 0 }, { name := "MAX_LENGTH", type := .int, accessFlags := 24, slot := 2, constantValue := 0 }, { name := "$assertionsDisabled", type := .boolean, accessFlags := 4120, slot := 3, constantValue := 0 }]
  methods := #[k12m0, k12m1, k12m2, k12m3]
  instanceTypes := #[]
  staticTypes := #[.int, .int, .int, .boolean]
  resolved := Array.replicate 635 none
  statics := none }

def pool13 : Array CpInfo := pool [(2, .class_ 4), (1, u "java/lang/Object"), (0, u "<init>"), (0, u "()V"), (17, .class_ 26), (1, u "jdk/internal/util/Preconditions"), (28, .class_ 56), (0, u "jdk/internal/util/Preconditions$4"), (57, .class_ 115), (0, u "jdk/internal/util/Preconditions$1"), (7, u "SIOOBE_FORMATTER"), (0, u "Ljava/util/function/BiFunction;"), (0, .class_ 126), (0, u "jdk/internal/util/Preconditions$2"), (3, u "AIOOBE_FORMATTER"), (0, .class_ 132), (0, u "jdk/internal/util/Preconditions$3"), (3, u "IOOBE_FORMATTER")] 57

def k13m0 : Method := { name := "<init>", desc := "()V", sig := { parameters := [], returnType := none }, accessFlags := 1, code := none }
/-- jdk/internal/util/Preconditions -/
def k13 : Class := { plain "jdk/internal/util/Preconditions" (some 0) with
  accessFlags := 33
  interfaces := #[]
  cf := some (fileOf pool13 24 #[.nestMembers #[55, 131, 125, 114]] #[{ accessFlags := 1, nameIndex := 5, descriptorIndex := 6, attributes := #[] }] 33 2 #[] #[{ accessFlags := 25, nameIndex := 123, descriptorIndex := 124, attributes := #[] }, { accessFlags := 25, nameIndex := 130, descriptorIndex := 124, attributes := #[] }, { accessFlags := 25, nameIndex := 136, descriptorIndex := 124, attributes := #[] }])
  fields := #[{ name := "SIOOBE_FORMATTER", type := (.object "java/util/function/BiFunction"), accessFlags := 25, slot := 0, constantValue := 0 }, { name := "AIOOBE_FORMATTER", type := (.object "java/util/function/BiFunction"), accessFlags := 25, slot := 1, constantValue := 0 }, { name := "IOOBE_FORMATTER", type := (.object "java/util/function/BiFunction"), accessFlags := 25, slot := 2, constantValue := 0 }]
  methods := #[k13m0]
  instanceTypes := #[]
  staticTypes := #[(.object "java/util/function/BiFunction"), (.object "java/util/function/BiFunction"), (.object "java/util/function/BiFunction")]
  resolved := Array.replicate 194 none
  statics := some 1 }

def pool14 : Array CpInfo := pool [(9, u "<init>"), (6, .class_ 18), (1, u "java/lang/Object"), (0, u "()V"), (1, .class_ 23), (1, u "jdk/internal/util/ArraysSupport"), (0, u "LOG2_ARRAY_LONG_INDEX_SCALE"), (0, u "I"), (2, u "U"), (0, u "Ljdk/internal/misc/Unsafe;"), (8, u "BIG_ENDIAN"), (0, u "Z"), (8, u "LOG2_BYTE_BIT_SIZE"), (4, u "LOG2_ARRAY_INT_INDEX_SCALE"), (54, u "JLA"), (0, u "Ljdk/internal/access/JavaLangAccess;"), (11, u "LOG2_ARRAY_BOOLEAN_INDEX_SCALE"), (9, u "LOG2_ARRAY_BYTE_INDEX_SCALE"), (5, u "LOG2_ARRAY_CHAR_INDEX_SCALE"), (5, u "LOG2_ARRAY_SHORT_INDEX_SCALE"), (18, u "LOG2_ARRAY_FLOAT_INDEX_SCALE"), (24, u "LOG2_ARRAY_DOUBLE_INDEX_SCALE"), (89, u "T_BOOLEAN"), (2, u "T_CHAR"), (1, u "T_FLOAT"), (1, u "T_DOUBLE"), (1, u "T_BYTE"), (1, u "T_SHORT"), (1, u "T_INT"), (1, u "T_LONG"), (1, u "SOFT_MAX_ARRAY_LENGTH")] 83

def k14m0 : Method := { name := "<init>", desc := "()V", sig := { parameters := [], returnType := none }, accessFlags := 2, code := none }
/-- jdk/internal/util/ArraysSupport -/
def k14 : Class := { plain "jdk/internal/util/ArraysSupport" (some 0) with
  accessFlags := 33
  interfaces := #[]
  cf := some (fileOf pool14 21 #[] #[{ accessFlags := 2, nameIndex := 9, descriptorIndex := 19, attributes := #[] }] 33 16 #[] #[{ accessFlags := 24, nameIndex := 28, descriptorIndex := 29, attributes := #[] }, { accessFlags := 26, nameIndex := 38, descriptorIndex := 39, attributes := #[] }, { accessFlags := 25, nameIndex := 121, descriptorIndex := 25, attributes := #[] }, { accessFlags := 25, nameIndex := 131, descriptorIndex := 25, attributes := #[] }, { accessFlags := 25, nameIndex := 137, descriptorIndex := 25, attributes := #[] }, { accessFlags := 25, nameIndex := 143, descriptorIndex := 25, attributes := #[] }, { accessFlags := 25, nameIndex := 53, descriptorIndex := 25, attributes := #[] }, { accessFlags := 25, nameIndex := 24, descriptorIndex := 25, attributes := #[] }, { accessFlags := 25, nameIndex := 162, descriptorIndex := 25, attributes := #[] }, { accessFlags := 25, nameIndex := 187, descriptorIndex := 25, attributes := #[] }, { accessFlags := 26, nameIndex := 48, descriptorIndex := 25, attributes := #[] }, { accessFlags := 25, nameIndex := 277, descriptorIndex := 25, attributes := #[] }, { accessFlags := 25, nameIndex := 280, descriptorIndex := 25, attributes := #[] }, { accessFlags := 25, nameIndex := 282, descriptorIndex := 25, attributes := #[] }, { accessFlags := 25, nameIndex := 284, descriptorIndex := 25, attributes := #[] }, { accessFlags := 25, nameIndex := 286, descriptorIndex := 25, attributes := #[] }, { accessFlags := 25, nameIndex := 288, descriptorIndex := 25, attributes := #[] }, { accessFlags := 25, nameIndex := 290, descriptorIndex := 25, attributes := #[] }, { accessFlags := 25, nameIndex := 292, descriptorIndex := 25, attributes := #[] }, { accessFlags := 26, nameIndex := 108, descriptorIndex := 109, attributes := #[] }, { accessFlags := 25, nameIndex := 294, descriptorIndex := 25, attributes := #[] }])
  fields := #[{ name := "U", type := (.object "jdk/internal/misc/Unsafe"), accessFlags := 24, slot := 0, constantValue := 0 }, { name := "BIG_ENDIAN", type := .boolean, accessFlags := 26, slot := 1, constantValue := 0 }, { name := "LOG2_ARRAY_BOOLEAN_INDEX_SCALE", type := .int, accessFlags := 25, slot := 2, constantValue := 0 }, { name := "LOG2_ARRAY_BYTE_INDEX_SCALE", type := .int, accessFlags := 25, slot := 3, constantValue := 0 }, { name := "LOG2_ARRAY_CHAR_INDEX_SCALE", type := .int, accessFlags := 25, slot := 4, constantValue := 0 }, { name := "LOG2_ARRAY_SHORT_INDEX_SCALE", type := .int, accessFlags := 25, slot := 5, constantValue := 0 }, { name := "LOG2_ARRAY_INT_INDEX_SCALE", type := .int, accessFlags := 25, slot := 6, constantValue := 0 }, { name := "LOG2_ARRAY_LONG_INDEX_SCALE", type := .int, accessFlags := 25, slot := 7, constantValue := 0 }, { name := "LOG2_ARRAY_FLOAT_INDEX_SCALE", type := .int, accessFlags := 25, slot := 8, constantValue := 0 }, { name := "LOG2_ARRAY_DOUBLE_INDEX_SCALE", type := .int, accessFlags := 25, slot := 9, constantValue := 0 }, { name := "LOG2_BYTE_BIT_SIZE", type := .int, accessFlags := 26, slot := 10, constantValue := 0 }, { name := "T_BOOLEAN", type := .int, accessFlags := 25, slot := 11, constantValue := 0 }, { name := "T_CHAR", type := .int, accessFlags := 25, slot := 12, constantValue := 0 }, { name := "T_FLOAT", type := .int, accessFlags := 25, slot := 13, constantValue := 0 }, { name := "T_DOUBLE", type := .int, accessFlags := 25, slot := 14, constantValue := 0 }, { name := "T_BYTE", type := .int, accessFlags := 25, slot := 15, constantValue := 0 }, { name := "T_SHORT", type := .int, accessFlags := 25, slot := 16, constantValue := 0 }, { name := "T_INT", type := .int, accessFlags := 25, slot := 17, constantValue := 0 }, { name := "T_LONG", type := .int, accessFlags := 25, slot := 18, constantValue := 0 }, { name := "JLA", type := (.object "jdk/internal/access/JavaLangAccess"), accessFlags := 26, slot := 19, constantValue := 0 }, { name := "SOFT_MAX_ARRAY_LENGTH", type := .int, accessFlags := 25, slot := 20, constantValue := 0 }]
  methods := #[k14m0]
  instanceTypes := #[]
  staticTypes := #[(.object "jdk/internal/misc/Unsafe"), .boolean, .int, .int, .int, .int, .int, .int, .int, .int, .int, .int, .int, .int, .int, .int, .int, .int, .int, (.object "jdk/internal/access/JavaLangAccess"), .int]
  resolved := Array.replicate 378 none
  statics := none }

def pool15 : Array CpInfo := pool [(1, u "java/lang/Cloneable"), (0, .class_ 1), (0, u "java/lang/Object"), (0, .class_ 3)] 3

/-- java/lang/Cloneable -/
def k15 : Class := { plain "java/lang/Cloneable" (some 0) with
  accessFlags := 1537
  interfaces := #[]
  cf := some (fileOf pool15 2 #[] #[] 1537 4 #[] #[])
  fields := #[]
  methods := #[]
  instanceTypes := #[]
  staticTypes := #[]
  resolved := Array.replicate 8 none
  statics := none }

/-- the primitive byte -/
def k16 : Class := { plain "byte" none with kind := .primitive 'B', accessFlags := 0x411 }
/-- [B -/
def k17 : Class := { plain "[B" (some 0) with kind := .array 16 .byte, interfaces := #[15, 2], accessFlags := 1041 }

/-- the primitive char -/
def k18 : Class := { plain "char" none with kind := .primitive 'C', accessFlags := 0x411 }
/-- [C -/
def k19 : Class := { plain "[C" (some 0) with kind := .array 18 .char, interfaces := #[15, 2], accessFlags := 1041 }

/-- the primitive int -/
def k20 : Class := { plain "int" none with kind := .primitive 'I', accessFlags := 0x411 }
/-- [I -/
def k21 : Class := { plain "[I" (some 0) with kind := .array 20 .int, interfaces := #[15, 2], accessFlags := 1041 }

def heap : Heap := #[{ cls := 7, slots := #[.long 0, .int 1, .null, .int 0, .null, .int 0, .int 0], vm := .statics 7 },
  { cls := 13, slots := #[.null, .null, .null], vm := .statics 13 }]
def classes : Array Class := #[k0, k1, k2, k3, k4, k5, k6, k7, k8, k9, k10, k11, k12, k13, k14, k15, k16, k17, k18, k19, k20, k21]
def interned : List (Array UInt16 × Addr) := []
def slotsUsed : Nat := 10
def theMethod : MethodId := ⟨1, 2⟩
def args0 : Array Value := #[.int 5, .int 3, .int 4, .int 1, .int 2]
def aboutOver (below : List Frame) : State where
  vm := { classes := classes, interned := interned.toArray }
  heap := heap
  slotsUsed := slotsUsed
  threads := #[{ frames := .invoking theMethod args0 :: below }]
def below0 : List Frame := [.native { method := ⟨0, 0⟩, args := #[] }]
def about1 : State := aboutOver below0
def p0 : Program := .bare "" "" ""
def e0 : Env := launch0.env 0 0 0
theorem w_frames : about1.frames = Frame.invoking theMethod args0 :: below0 := rfl
set_option maxRecDepth 65536 in
theorem w_args : argsFit about1.vm theMethod args0 = true := by decide +kernel
set_option maxRecDepth 65536 in
theorem w_heap : heapFits about1 = true := by decide +kernel
set_option maxRecDepth 65536 in
theorem w_runnable : about1.curStatus? = some .runnable := by decide +kernel
set_option maxRecDepth 65536 in
theorem w_alone : about1.alone = true := by decide +kernel
set_option maxRecDepth 65536 in
theorem w_named : about1.methodNamed? x = some theMethod := by decide +kernel
set_option maxRecDepth 65536 in
theorem w_hears : about1.hears theMethod below0 = true := by decide +kernel
set_option maxRecDepth 65536 in
theorem w_ripe : about1.ripe theMethod args0 below0 = true := by decide +kernel
theorem w_running : about1.status = .running := rfl
set_option maxRecDepth 65536 in
theorem w_room : about1.hasRoom e0.platform room_1 = true :=
  launch0.hasRoom_least _ room_1 (by decide +kernel) (by decide +kernel) (by decide +kernel) (by decide +kernel) (by decide +kernel) (by decide +kernel)
theorem allAtoms_all (ts : List Jvm.Cond) (a : Array Jvm.Value) (st : Jvm.State) : (allAtoms ts).before a st = ts.all (fun c => c.before a st) := by
  induction ts with
  | nil => rfl
  | cons c t ih =>
    show (Jvm.Cond.and c (allAtoms t)).before a st = _
    rw [Jvm.Cond.before_and, ih, List.all_cons]
def words1 : List Jvm.Cond := Jvm.Cond.code x code maxLocals ret :: tables_1
/-- a 'code' word, met by the world's own term for the bytes: nothing is compared byte by byte -/
theorem code_word {y : MethodName} {bytes : ByteArray} {mx : Nat} {rt : Option FieldType} {a : Array Value} {s : State} {m : MethodId} {meth : Method} {c : Code} (h1 : s.methodNamed? y = some m) (h2 : s.vm.method? m = some meth) (h3 : meth.code = some c) (h4 : c.code = bytes)
    (h5 : (c.maxLocals == mx && c.exceptionTable.isEmpty && decide (c.maxStack ≤ mostOperands) && decide (meth.sig.returnType = rt) && !meth.locks && decide (parseMethodDescriptor y.desc = some meth.sig)) = true) : (Jvm.Cond.code y bytes mx rt).before a s = true := by
  simp only [Bool.and_eq_true, beq_iff_eq, Bool.not_eq_true', decide_eq_true_eq] at h5
  obtain ⟨⟨⟨⟨⟨g1, g2⟩, g3⟩, g4⟩, g5⟩, g6⟩ := h5
  simp [Cond.before, Cond.holds, Cond.value, h1, h2, h3, h4, g1, g2, g3, g4, g5, g6]
def isCode : Jvm.Cond → Bool
  | .code _ _ _ _ => true
  | _ => false
theorem all_split {L : List Jvm.Cond} {P : Jvm.Cond → Bool} (h1 : L.all (fun c => isCode c || P c) = true) (h2 : ∀ c ∈ L.filter isCode, P c = true) : L.all P = true := by
  refine List.all_eq_true.mpr fun c hc => ?_
  have h := List.all_eq_true.mp h1 c hc
  rcases Bool.eq_false_or_eq_true (isCode c) with hi | hi
  · exact h2 c (List.mem_filter.mpr ⟨hc, hi⟩)
  · simpa [hi] using h
set_option maxRecDepth 65536 in
theorem w_c0 : (Jvm.Cond.code x code maxLocals ret).before args0 about1 = true := code_word (m := ⟨1, 2⟩) (meth := k1m2) (c := k1c2) (by decide +kernel) rfl rfl rfl (by decide +kernel)
set_option maxRecDepth 65536 in
theorem w_c1 : (Jvm.Cond.code ({ cls := "com/example/offerloom/offerloom/book/PriceGroupEqualsPinLaw", name := "mk", desc := "(ICC)Ljava/lang/String;" } : Jvm.MethodName) method_2_code (3 : Nat) (Option.some (Jvm.ClassFile.FieldType.object "java/lang/String"))).before args0 about1 = true := code_word (m := ⟨1, 1⟩) (meth := k1m1) (c := k1c1) (by decide +kernel) rfl rfl rfl (by decide +kernel)
set_option maxRecDepth 65536 in
theorem w_c2 : (Jvm.Cond.code ({ cls := "java/lang/String", name := "<init>", desc := "([C)V" } : Jvm.MethodName) jdk_42_method_3_code (2 : Nat) (Option.none : Option Jvm.ClassFile.FieldType)).before args0 about1 = true := code_word (m := ⟨7, 1⟩) (meth := k7m1) (c := k7c1) (by decide +kernel) rfl rfl rfl (by decide +kernel)
set_option maxRecDepth 65536 in
theorem w_c3 : (Jvm.Cond.code ({ cls := "java/lang/String", name := "<init>", desc := "([CIILjava/lang/Void;)V" } : Jvm.MethodName) jdk_42_method_149_code (6 : Nat) (Option.none : Option Jvm.ClassFile.FieldType)).before args0 about1 = true := code_word (m := ⟨7, 3⟩) (meth := k7m3) (c := k7c3) (by decide +kernel) rfl rfl rfl (by decide +kernel)
set_option maxRecDepth 65536 in
theorem w_c4 : (Jvm.Cond.code ({ cls := "java/lang/Object", name := "<init>", desc := "()V" } : Jvm.MethodName) object_method_1_code (1 : Nat) (Option.none : Option Jvm.ClassFile.FieldType)).before args0 about1 = true := code_word (m := ⟨0, 0⟩) (meth := k0m0) (c := k0c0) (by decide +kernel) rfl rfl rfl (by decide +kernel)
set_option maxRecDepth 65536 in
theorem w_c5 : (Jvm.Cond.code ({ cls := "com/example/offerloom/offerloom/book/PriceGroup", name := "<init>", desc := "(Ljava/lang/String;I)V" } : Jvm.MethodName) prog_35_method_1_code (3 : Nat) (Option.none : Option Jvm.ClassFile.FieldType)).before args0 about1 = true := code_word (m := ⟨9, 0⟩) (meth := k9m0) (c := k9c0) (by decide +kernel) rfl rfl rfl (by decide +kernel)
set_option maxRecDepth 65536 in
theorem w_c6 : (Jvm.Cond.code ({ cls := "java/lang/Record", name := "<init>", desc := "()V" } : Jvm.MethodName) jdk_30_method_1_code (1 : Nat) (Option.none : Option Jvm.ClassFile.FieldType)).before args0 about1 = true := code_word (m := ⟨8, 0⟩) (meth := k8m0) (c := k8c0) (by decide +kernel) rfl rfl rfl (by decide +kernel)
set_option maxRecDepth 65536 in
theorem w_c7 : (Jvm.Cond.code ({ cls := "java/util/Objects", name := "requireNonNull", desc := "(Ljava/lang/Object;Ljava/lang/String;)Ljava/lang/Object;" } : Jvm.MethodName) jdk_31_method_11_code (2 : Nat) (Option.some (Jvm.ClassFile.FieldType.object "java/lang/Object"))).before args0 about1 = true := code_word (m := ⟨10, 1⟩) (meth := k10m1) (c := k10c1) (by decide +kernel) rfl rfl rfl (by decide +kernel)
set_option maxRecDepth 65536 in
theorem w_c8 : (Jvm.Cond.code ({ cls := "com/example/offerloom/offerloom/book/PriceGroup", name := "equals", desc := "(Ljava/lang/Object;)Z" } : Jvm.MethodName) prog_35_method_3_code (3 : Nat) (Option.some Jvm.ClassFile.FieldType.boolean)).before args0 about1 = true := code_word (m := ⟨9, 1⟩) (meth := k9m1) (c := k9c1) (by decide +kernel) rfl rfl rfl (by decide +kernel)
set_option maxRecDepth 65536 in
theorem w_c9 : (Jvm.Cond.code ({ cls := "java/lang/String", name := "equals", desc := "(Ljava/lang/Object;)Z" } : Jvm.MethodName) jdk_42_method_66_code (3 : Nat) (Option.some Jvm.ClassFile.FieldType.boolean)).before args0 about1 = true := code_word (m := ⟨7, 2⟩) (meth := k7m2) (c := k7c2) (by decide +kernel) rfl rfl rfl (by decide +kernel)
set_option maxRecDepth 65536 in
theorem w_c10 : (Jvm.Cond.code ({ cls := "java/lang/StringLatin1", name := "equals", desc := "([B[B)Z" } : Jvm.MethodName) jdk_43_method_13_code (3 : Nat) (Option.some Jvm.ClassFile.FieldType.boolean)).before args0 about1 = true := code_word (m := ⟨11, 1⟩) (meth := k11m1) (c := k11c1) (by decide +kernel) rfl rfl rfl (by decide +kernel)
set_option maxRecDepth 65536 in
theorem w_c11 : (Jvm.Cond.code ({ cls := "java/lang/StringUTF16", name := "compress", desc := "([CII)[B" } : Jvm.MethodName) jdk_52_method_16_code (6 : Nat) (Option.some (Jvm.ClassFile.FieldType.array Jvm.ClassFile.FieldType.byte))).before args0 about1 = true := code_word (m := ⟨12, 2⟩) (meth := k12m2) (c := k12c2) (by decide +kernel) rfl rfl rfl (by decide +kernel)
set_option maxRecDepth 65536 in
theorem w_c12 : (Jvm.Cond.code ({ cls := "java/lang/StringUTF16", name := "compress", desc := "([CI[BII)I" } : Jvm.MethodName) jdk_52_method_21_code (7 : Nat) (Option.some Jvm.ClassFile.FieldType.int)).before args0 about1 = true := code_word (m := ⟨12, 3⟩) (meth := k12m3) (c := k12c3) (by decide +kernel) rfl rfl rfl (by decide +kernel)
set_option maxRecDepth 65536 in
theorem w_c13 : (Jvm.Cond.code ({ cls := "java/lang/StringUTF16", name := "coderFromArrayLen", desc := "([BI)B" } : Jvm.MethodName) jdk_52_method_15_code (2 : Nat) (Option.some Jvm.ClassFile.FieldType.byte)).before args0 about1 = true := code_word (m := ⟨12, 1⟩) (meth := k12m1) (c := k12c1) (by decide +kernel) rfl rfl rfl (by decide +kernel)
def codes1 : List Jvm.Cond := [Jvm.Cond.code x code maxLocals ret, Jvm.Cond.code ({ cls := "com/example/offerloom/offerloom/book/PriceGroupEqualsPinLaw", name := "mk", desc := "(ICC)Ljava/lang/String;" } : Jvm.MethodName) method_2_code (3 : Nat) (Option.some (Jvm.ClassFile.FieldType.object "java/lang/String")), Jvm.Cond.code ({ cls := "java/lang/String", name := "<init>", desc := "([C)V" } : Jvm.MethodName) jdk_42_method_3_code (2 : Nat) (Option.none : Option Jvm.ClassFile.FieldType), Jvm.Cond.code ({ cls := "java/lang/String", name := "<init>", desc := "([CIILjava/lang/Void;)V" } : Jvm.MethodName) jdk_42_method_149_code (6 : Nat) (Option.none : Option Jvm.ClassFile.FieldType), Jvm.Cond.code ({ cls := "java/lang/Object", name := "<init>", desc := "()V" } : Jvm.MethodName) object_method_1_code (1 : Nat) (Option.none : Option Jvm.ClassFile.FieldType), Jvm.Cond.code ({ cls := "com/example/offerloom/offerloom/book/PriceGroup", name := "<init>", desc := "(Ljava/lang/String;I)V" } : Jvm.MethodName) prog_35_method_1_code (3 : Nat) (Option.none : Option Jvm.ClassFile.FieldType), Jvm.Cond.code ({ cls := "java/lang/Record", name := "<init>", desc := "()V" } : Jvm.MethodName) jdk_30_method_1_code (1 : Nat) (Option.none : Option Jvm.ClassFile.FieldType), Jvm.Cond.code ({ cls := "java/util/Objects", name := "requireNonNull", desc := "(Ljava/lang/Object;Ljava/lang/String;)Ljava/lang/Object;" } : Jvm.MethodName) jdk_31_method_11_code (2 : Nat) (Option.some (Jvm.ClassFile.FieldType.object "java/lang/Object")), Jvm.Cond.code ({ cls := "com/example/offerloom/offerloom/book/PriceGroup", name := "equals", desc := "(Ljava/lang/Object;)Z" } : Jvm.MethodName) prog_35_method_3_code (3 : Nat) (Option.some Jvm.ClassFile.FieldType.boolean), Jvm.Cond.code ({ cls := "java/lang/String", name := "equals", desc := "(Ljava/lang/Object;)Z" } : Jvm.MethodName) jdk_42_method_66_code (3 : Nat) (Option.some Jvm.ClassFile.FieldType.boolean), Jvm.Cond.code ({ cls := "java/lang/StringLatin1", name := "equals", desc := "([B[B)Z" } : Jvm.MethodName) jdk_43_method_13_code (3 : Nat) (Option.some Jvm.ClassFile.FieldType.boolean), Jvm.Cond.code ({ cls := "java/lang/StringUTF16", name := "compress", desc := "([CII)[B" } : Jvm.MethodName) jdk_52_method_16_code (6 : Nat) (Option.some (Jvm.ClassFile.FieldType.array Jvm.ClassFile.FieldType.byte)), Jvm.Cond.code ({ cls := "java/lang/StringUTF16", name := "compress", desc := "([CI[BII)I" } : Jvm.MethodName) jdk_52_method_21_code (7 : Nat) (Option.some Jvm.ClassFile.FieldType.int), Jvm.Cond.code ({ cls := "java/lang/StringUTF16", name := "coderFromArrayLen", desc := "([BI)B" } : Jvm.MethodName) jdk_52_method_15_code (2 : Nat) (Option.some Jvm.ClassFile.FieldType.byte)]
set_option maxRecDepth 65536 in
theorem codes_eq : words1.filter isCode = codes1 := rfl
theorem w_codes : ∀ c ∈ words1.filter isCode, c.before args0 about1 = true := by
  rw [codes_eq]
  intro c hc
  simp only [codes1, List.mem_cons, List.not_mem_nil, or_false] at hc
  rcases hc with rfl | rfl | rfl | rfl | rfl | rfl | rfl | rfl | rfl | rfl | rfl | rfl | rfl | rfl
  · exact w_c0
  · exact w_c1
  · exact w_c2
  · exact w_c3
  · exact w_c4
  · exact w_c5
  · exact w_c6
  · exact w_c7
  · exact w_c8
  · exact w_c9
  · exact w_c10
  · exact w_c11
  · exact w_c12
  · exact w_c13
set_option maxRecDepth 65536 in
theorem w_t1 : (words1.take 24).all (fun c => isCode c || c.before args0 about1) = true := by decide +kernel
set_option maxRecDepth 65536 in
theorem w_t2 : ((words1.drop 24).take 24).all (fun c => isCode c || c.before args0 about1) = true := by decide +kernel
set_option maxRecDepth 65536 in
theorem w_t3 : (((words1.drop 24).drop 24).take 24).all (fun c => isCode c || c.before args0 about1) = true := by decide +kernel
set_option maxRecDepth 65536 in
theorem w_t4 : (((words1.drop 24).drop 24).drop 24).all (fun c => isCode c || c.before args0 about1) = true := by decide +kernel
theorem w_tables : (allAtoms (Jvm.Cond.code x code maxLocals ret :: tables_1)).before args0 about1 = true := by
  rw [allAtoms_all]
  show words1.all (fun c => c.before args0 about1) = true
  refine all_split ?_ w_codes
  rw [← List.take_append_drop 24 words1, List.all_append, w_t1, ← List.take_append_drop 24 (words1.drop 24), List.all_append, w_t2, ← List.take_append_drop 24 ((words1.drop 24).drop 24), List.all_append, w_t3, w_t4]
  rfl
set_option maxRecDepth 65536 in
theorem w_rest : rest_1_c.before args0 about1 = true := by decide +kernel
set_option maxRecDepth 65536 in
theorem w_case : (Jvm.Cond.and given_1 narrow_1).before args0 about1 = true := by decide +kernel
set_option maxRecDepth 65536 in
theorem w_consts : constsHeld consts_1 about1 := Jvm.Lit.constsHeldB_iff.mp (by decide +kernel)
theorem w_applies : (headSpec (Jvm.Cond.code x code maxLocals ret :: tables_1) room_1).applies x e0.platform about1 = true :=
  (Spec.applies_iff w_frames).mpr ⟨w_running, w_runnable, w_alone, w_named, w_hears, w_ripe, w_room, w_tables⟩
theorem atStart : AtStart classFile x code maxLocals ret World_1 tables_1 room_1 Calls_1 rest_1 Pre_1 launch0 p0 e0 about1 theMethod args0 below0 :=
  ⟨lists_1, trivial, launch0.admits_env _ _ _, launch0.least_env, fairChoices_fair.cas, fairChoices_fair.clock, w_frames, w_args, w_heap, w_applies, ⟨w_consts, trivial⟩, w_rest, w_case⟩
end start1
theorem witness_1 : WitnessClaimed_1 := ⟨start1.p0, start1.e0, start1.about1, start1.theMethod, start1.args0, start1.below0, start1.atStart⟩
end Jvm.Pilot.@@N@@
