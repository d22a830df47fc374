import JvmDerived
import JvmDerived.Pilot.@@N@@Statement
import JvmDerived.Pilot.@@N@@Code
set_option linter.unusedVariables false
set_option linter.unusedSimpArgs false
/- laws to paste: Road.backV, Road.lenW, Road.codOf (cut by pick.py; bodies as the Statement names them) -/
namespace Jvm.Pilot.@@N@@
namespace StrChars
open Jvm Sem ClassFile Op Lib Jvm.Stand Jvm.Free.XT Jvm.Free.ALB Jvm.Free.JM Jvm.Free
open Jvm.Lib.Cold (StaticIs)
/-- a char array whose places are chars -/
def Ch (a : Addr) (A : Cell) (U : State) : Prop := Arr .char a A U ∧ Typed .char A
theorem Ch.mv {a : Addr} {A : Cell} {U U' : State} (h : Ch a A U) (hal : U.vm.Alike U'.vm) (hh : U'.heap = U.heap) : Ch a A U' := ⟨h.1.mv hal hh, h.2⟩
theorem Ch.keep {a : Addr} {A : Cell} {U U' : State} (h : Ch a A U) (hal : U.vm.Alike U'.vm) (hk : U'.heap[a]? = some A) : Ch a A U' := ⟨h.1.keep hal hk, h.2⟩
/-- what place i of a char[]'s cell holds -/
def cv (A : Cell) (i : Nat) : Int32 := match A.slots[i]? with | some (.int x) => x | _ => 0
theorem Ch.get {a : Addr} {A : Cell} {U : State} (h : Ch a A U) {i : Nat} (hi : i < A.slots.size) : A.slots[i]? = some (.int (cv A i)) := by
  have e := Array.getElem?_eq_getElem hi
  have f := h.2 i _ e
  unfold cv; rw [e]
  generalize A.slots[i] = v at f
  cases v <;> simp [fits] at f ⊢
/-- the byte that i2b leaves of a char -/
def lo8 (x : Int32) : Int32 := x.toInt8.toInt32
theorem fits_lo8 (y : Int32) : fits .byte (.int (lo8 y)) = true := by
  have h1 := y.toInt8.le_toInt
  have h2 := y.toInt8.toInt_lt
  simp only [lo8, fits, Bool.and_eq_true, decide_eq_true_eq, Int32.le_iff_toInt_le, Int8.toInt_toInt32, show (-128 : Int32).toInt = -128 from by decide, show (127 : Int32).toInt = 127 from by decide]
  omega
/-- A' is A but that each place j of lo .. hi - 1 holds f j -/
def Laid (A A' : Cell) (lo hi : Nat) (f : Nat → Value) : Prop := A'.cls = A.cls ∧ A'.vm = A.vm ∧ A'.slots.size = A.slots.size ∧ ∀ i, A'.slots[i]? = if lo ≤ i ∧ i < hi then some (f i) else A.slots[i]?
theorem Laid.zero (A : Cell) (lo : Nat) (f : Nat → Value) : Laid A A lo (lo + 0) f := ⟨rfl, rfl, rfl, fun i => by rw [if_neg (by omega)]⟩
theorem Laid.step {A Ak : Cell} {lo k : Nat} {f : Nat → Value} {v : Value} (h : Laid A Ak lo k f) (hlo : lo ≤ k) (hk : k < Ak.slots.size) (hv : v = f k) : Laid A (Ak.setSlot k v) lo (k + 1) f := by
  refine ⟨h.1, h.2.1, by simpa [Cell.setSlot] using h.2.2.1, fun i => ?_⟩
  by_cases e : k = i
  · subst e; rw [Cell.slots_setSlot_self v hk, if_pos (by omega), hv]
  · rw [Cell.slots_setSlot_ne v e, h.2.2.2 i]
    by_cases q : lo ≤ i ∧ i < k
    · rw [if_pos q, if_pos (by omega)]
    · rw [if_neg q, if_neg (by omega)]
def U16 : String := "java/lang/StringUTF16"
namespace Cmp5
def yN : MethodName := ⟨"java/lang/StringUTF16", "compress", "([CI[BII)I"⟩
abbrev yB : ByteArray := jdk_52_method_21_code
theorem d0 : decode yB 0 = .ok (.iconst 0, 1) := by decide +kernel
theorem d1 : decode yB 1 = .ok (.istore 5, 2) := by decide +kernel
theorem d3 : decode yB 3 = .ok (.iload 5, 2) := by decide +kernel
theorem d5 : decode yB 5 = .ok (.iload 4, 2) := by decide +kernel
theorem d7 : decode yB 7 = .ok (.if_icmp (.ge) 37, 3) := by decide +kernel
theorem d10 : decode yB 10 = .ok (.aload_n 0, 1) := by decide +kernel
theorem d11 : decode yB 11 = .ok (.iload_n 1, 1) := by decide +kernel
theorem d12 : decode yB 12 = .ok (.caload, 1) := by decide +kernel
theorem d13 : decode yB 13 = .ok (.istore 6, 2) := by decide +kernel
theorem d15 : decode yB 15 = .ok (.iload 6, 2) := by decide +kernel
theorem d17 : decode yB 17 = .ok (.sipush 255, 3) := by decide +kernel
theorem d20 : decode yB 20 = .ok (.if_icmp (.le) 6, 3) := by decide +kernel
theorem d26 : decode yB 26 = .ok (.aload_n 2, 1) := by decide +kernel
theorem d27 : decode yB 27 = .ok (.iload_n 3, 1) := by decide +kernel
theorem d28 : decode yB 28 = .ok (.iload 6, 2) := by decide +kernel
theorem d30 : decode yB 30 = .ok (.i2b, 1) := by decide +kernel
theorem d31 : decode yB 31 = .ok (.bastore, 1) := by decide +kernel
theorem d32 : decode yB 32 = .ok (.iinc 1 1, 3) := by decide +kernel
theorem d35 : decode yB 35 = .ok (.iinc 3 1, 3) := by decide +kernel
theorem d38 : decode yB 38 = .ok (.iinc 5 1, 3) := by decide +kernel
theorem d41 : decode yB 41 = .ok (.goto (-38), 3) := by decide +kernel
theorem d44 : decode yB 44 = .ok (.iload 4, 2) := by decide +kernel
theorem d46 : decode yB 46 = .ok (.ireturn, 1) := by decide +kernel
def site : List Cond := []
def tab : Cond := tabOf yN yB 7 (some .int) site
def P (b : Addr) (A : Cell) (d : Addr) (B : Cell) (o q len : Nat) (args : Array Value) (s : State) : Prop := args = #[.ref b, .int (Int32.ofNat o), .ref d, .int (Int32.ofNat q), .int (Int32.ofNat len)] ∧ Ch b A s ∧ Arr .byte d B s ∧ b ≠ d ∧ o + len ≤ A.slots.size ∧ q + len ≤ B.slots.size ∧ ∀ i, i < len → ¬ 255 < cv A (o + i)
def E (b : Addr) (A : Cell) (d : Addr) (B : Cell) (o q len : Nat) (r : Option Value) (s u : State) : Prop := r = some (.int (Int32.ofNat len)) ∧ ∃ B', Put d B' s u ∧ Laid B B' q (q + len) (fun j => Value.int (lo8 (cv A (o + (j - q)))))
/-- no char of the range above 255: len; the places written hold each char's low byte -/
theorem law (l : Launch) (b : Addr) (A : Cell) (d : Addr) (B : Cell) (o q len : Nat) : Law l yN 5 5 0 0 yB 7 (some .int) site (P b A d B o q len) (E b A d B o q len) (copyLocs d q len) 0 0 := by
  refine Law.of_walk (plainFor_of_name (by decide +kernel)) (by decide +kernel) (by decide +kernel) (by decide) (fun _ _ h => by rw [h.1]; rfl) (fun _ U U' hal hh h => ⟨h.1, h.2.1.mv hal hh, h.2.2.1.mv hal hh, h.2.2.2⟩) (fun r U U' V V' h1 hal h2 h => ⟨h.1, h.2.elim fun B' q => ⟨B', q.1.mv h1 h2, q.2⟩⟩) ?_
  intro p e s m args below meth c s₁ X0 hexec hbytes hml hret hlk hnm hown hh0 W hP
  obtain ⟨rfl, hA, hB, hne, l1, l2, hp⟩ := hP
  have c1 : Steps p.tables e below (s₁.setTop (entryFrame m #[.ref b, .int (Int32.ofNat o), .ref d, .int (Int32.ofNat q), .int (Int32.ofNat len)] 7)) (s₁.setTop (mkF m 0 #[.val (.ref b), .val (.int (Int32.ofNat o)), .val (.ref d), .val (.int (Int32.ofNat q)), .val (.int (Int32.ofNat len)), .unset, .unset] [])) := entry rfl
  have hA0 := hA.1.mv X0.warmed.alike hh0
  have hB0 := hB.mv X0.warmed.alike hh0
  have a31 := hA.1.2.2.2
  have c2 : Steps p.tables e below (s₁.setTop (entryFrame m #[.ref b, .int (Int32.ofNat o), .ref d, .int (Int32.ofNat q), .int (Int32.ofNat len)] 7)) (s₁.setTop (mkF m 3 #[.val (.ref b), .val (.int (Int32.ofNat o)), .val (.ref d), .val (.int (Int32.ofNat q)), .val (.int (Int32.ofNat len)), .val (.int 0), .unset] [])) := c1.trans (by
    refine iconstV X0.here hexec rfl 0 (hb hbytes d0) (by decide) ?_
    refine XS.istore X0.here hexec rfl (hb hbytes d1) rfl rfl ?_
    exact Steps.refl _)
  have loop : ∀ (r i : Nat), i + r = len → ∀ (z : Slot), (z = .unset ∨ ∃ w, z = .val w ∧ w.category = 1) → ∀ (Tl : State) (Bk : Cell), Stand p l e { frames := 0, locals := 0, cells := 0, slots := 0 } s m #[.ref b, .int (Int32.ofNat o), .ref d, .int (Int32.ofNat q), .int (Int32.ofNat len)] below meth c Tl ([] ++ copyLocs d q i) 0 0 → Put d Bk s₁ Tl → Laid B Bk q (q + i) (fun j => Value.int (lo8 (cv A (o + (j - q))))) →
      Steps p.tables e below (s₁.setTop (entryFrame m #[.ref b, .int (Int32.ofNat o), .ref d, .int (Int32.ofNat q), .int (Int32.ofNat len)] 7)) (Tl.setTop (mkF m 3 #[.val (.ref b), .val (.int (Int32.ofNat (o + i))), .val (.ref d), .val (.int (Int32.ofNat (q + i))), .val (.int (Int32.ofNat len)), .val (.int (Int32.ofNat i)), z] [])) → ∃ (T' : State) (B' : Cell) (z' : Slot), Stand p l e { frames := 0, locals := 0, cells := 0, slots := 0 } s m #[.ref b, .int (Int32.ofNat o), .ref d, .int (Int32.ofNat q), .int (Int32.ofNat len)] below meth c T' ([] ++ copyLocs d q len) 0 0 ∧ Put d B' s₁ T' ∧ Laid B B' q (q + len) (fun j => Value.int (lo8 (cv A (o + (j - q))))) ∧
      Steps p.tables e below (s₁.setTop (entryFrame m #[.ref b, .int (Int32.ofNat o), .ref d, .int (Int32.ofNat q), .int (Int32.ofNat len)] 7)) (T'.setTop (mkF m 3 #[.val (.ref b), .val (.int (Int32.ofNat (o + len))), .val (.ref d), .val (.int (Int32.ofNat (q + len))), .val (.int (Int32.ofNat len)), .val (.int (Int32.ofNat len)), z'] [])) := by
    intro r
    induction r with
    | zero =>
      intro i hi z hz Tl Bk Xl pl fl cl
      have hil : i = len := by omega
      rw [hil] at Xl fl cl
      exact ⟨Tl, Bk, z, Xl, pl, fl, cl⟩
    | succ r ih =>
      intro i hi z hz Tl Bk Xl pl fl cl
      have all := X0.warmed.alike.symm.trans Xl.warmed.alike
      have hAl := hA0.keep all (pl.other hne hA0.1)
      have hBk := hB0.like all pl.1 fl.1 fl.2.1 fl.2.2.1
      have hlt : q + i < Bk.slots.size := by rw [fl.2.2.1]; omega
      have c3 : Steps p.tables e below (s₁.setTop (entryFrame m #[.ref b, .int (Int32.ofNat o), .ref d, .int (Int32.ofNat q), .int (Int32.ofNat len)] 7)) (Tl.setTop (mkF m 12 #[.val (.ref b), .val (.int (Int32.ofNat (o + i))), .val (.ref d), .val (.int (Int32.ofNat (q + i))), .val (.int (Int32.ofNat len)), .val (.int (Int32.ofNat i)), z] [.int (Int32.ofNat (o + i)), .ref b])) := cl.trans (by
        refine XS.iload Xl.here hexec rfl (hb hbytes d3) rfl ?_
        refine XS.iload Xl.here hexec rfl (hb hbytes d5) rfl ?_
        refine XS.icmpNo Xl.here hexec rfl (hb hbytes d7) rfl (ii_ge_f (lt32 (by omega) (by omega))) ?_
        refine XS.aloadN Xl.here hexec rfl (hb hbytes d10) rfl rfl ?_
        refine XS.iloadN Xl.here hexec rfl (hb hbytes d11) rfl ?_
        exact Steps.refl _)
      have c4 : Steps p.tables e below (s₁.setTop (entryFrame m #[.ref b, .int (Int32.ofNat o), .ref d, .int (Int32.ofNat q), .int (Int32.ofNat len)] 7)) (Tl.setTop (mkF m 13 #[.val (.ref b), .val (.int (Int32.ofNat (o + i))), .val (.ref d), .val (.int (Int32.ofNat (q + i))), .val (.int (Int32.ofNat len)), .val (.int (Int32.ofNat i)), z] [.int (cv A (o + i))])) := c3.trans (by
        refine Xl.aget hexec hAl rfl (hA.get (i := o + i) (by omega)) rfl rfl (hb hbytes d12) ?_
        exact Steps.refl _)
      have c5 : Steps p.tables e below (s₁.setTop (entryFrame m #[.ref b, .int (Int32.ofNat o), .ref d, .int (Int32.ofNat q), .int (Int32.ofNat len)] 7)) (Tl.setTop (mkF m 15 #[.val (.ref b), .val (.int (Int32.ofNat (o + i))), .val (.ref d), .val (.int (Int32.ofNat (q + i))), .val (.int (Int32.ofNat len)), .val (.int (Int32.ofNat i)), .val (.int (cv A (o + i)))] [])) := c4.trans (by
        refine XS.istoreS Xl.here hexec rfl (hb hbytes d13) rfl rfl hz ?_
        exact Steps.refl _)
      have c6 : Steps p.tables e below (s₁.setTop (entryFrame m #[.ref b, .int (Int32.ofNat o), .ref d, .int (Int32.ofNat q), .int (Int32.ofNat len)] 7)) (Tl.setTop (mkF m 31 #[.val (.ref b), .val (.int (Int32.ofNat (o + i))), .val (.ref d), .val (.int (Int32.ofNat (q + i))), .val (.int (Int32.ofNat len)), .val (.int (Int32.ofNat i)), .val (.int (cv A (o + i)))] [.int (lo8 (cv A (o + i))), .int (Int32.ofNat (q + i)), .ref d])) := c5.trans (by
        refine XS.iload Xl.here hexec rfl (hb hbytes d15) rfl ?_
        refine sipushV Xl.here hexec rfl 255 (hb hbytes d17) (by decide) ?_
        refine XS.icmpYes Xl.here hexec rfl (pc0 := 20) rfl (hb hbytes d20) rfl (ii_le_t (hp i (by omega))) (by decide) rfl ?_
        refine XS.aloadN Xl.here hexec rfl (hb hbytes d26) rfl rfl ?_
        refine XS.iloadN Xl.here hexec rfl (hb hbytes d27) rfl ?_
        refine XS.iload Xl.here hexec rfl (hb hbytes d28) rfl ?_
        refine i2b Xl.here hexec rfl (hb hbytes d30) rfl ?_
        exact Steps.refl _)
      obtain ⟨T7, X7, p7, st7⟩ := Xl.aput hexec hBk rfl hlt rfl (fits_lo8 (cv A (o + i))) (g := (mkF m 31 #[.val (.ref b), .val (.int (Int32.ofNat (o + i))), .val (.ref d), .val (.int (Int32.ofNat (q + i))), .val (.int (Int32.ofNat len)), .val (.int (Int32.ofNat i)), .val (.int (cv A (o + i)))] [.int (lo8 (cv A (o + i))), .int (Int32.ofNat (q + i)), .ref d])) rfl (rest := []) rfl (hb hbytes d31)
      have c8 : Steps p.tables e below (s₁.setTop (entryFrame m #[.ref b, .int (Int32.ofNat o), .ref d, .int (Int32.ofNat q), .int (Int32.ofNat len)] 7)) (T7.setTop (mkF m 32 #[.val (.ref b), .val (.int (Int32.ofNat (o + i))), .val (.ref d), .val (.int (Int32.ofNat (q + i))), .val (.int (Int32.ofNat len)), .val (.int (Int32.ofNat i)), .val (.int (cv A (o + i)))] [])) := c6.trans (st7 _ (Steps.refl _))
      have c9 : Steps p.tables e below (s₁.setTop (entryFrame m #[.ref b, .int (Int32.ofNat o), .ref d, .int (Int32.ofNat q), .int (Int32.ofNat len)] 7)) (T7.setTop (mkF m 3 #[.val (.ref b), .val (.int (Int32.ofNat (o + i) + 1)), .val (.ref d), .val (.int (Int32.ofNat (q + i) + 1)), .val (.int (Int32.ofNat len)), .val (.int (Int32.ofNat i + 1)), .val (.int (cv A (o + i)))] [])) := c8.trans (by
        refine iincV X7.here hexec rfl 1 (hb hbytes d32) (by decide) rfl rfl ?_
        refine iincV X7.here hexec rfl 1 (hb hbytes d35) (by decide) rfl rfl ?_
        refine iincV X7.here hexec rfl 1 (hb hbytes d38) (by decide) rfl rfl ?_
        refine XS.goto X7.here hexec rfl (pc0 := 41) rfl (hb hbytes d41) (by decide) rfl ?_
        exact Steps.refl _)
      have c10 : Steps p.tables e below (s₁.setTop (entryFrame m #[.ref b, .int (Int32.ofNat o), .ref d, .int (Int32.ofNat q), .int (Int32.ofNat len)] 7)) (T7.setTop (mkF m 3 #[.val (.ref b), .val (.int (Int32.ofNat (o + (i + 1)))), .val (.ref d), .val (.int (Int32.ofNat (q + (i + 1)))), .val (.int (Int32.ofNat len)), .val (.int (Int32.ofNat (i + 1))), .val (.int (cv A (o + i)))] [])) := by
        have := c9
        rw [succ32, succ32, succ32] at this
        exact this
      exact ih (i + 1) (by omega) _ (Or.inr ⟨_, rfl, rfl⟩) T7 _ (by rw [copyLocs_step, ← List.append_assoc]; exact X7) (pl.trans p7) (fl.step (by omega) hlt (by simp)) c10
  obtain ⟨T9, B9, z9, X9, p9, f9, g9⟩ := loop len 0 (by omega) .unset (Or.inl rfl) s₁ B (by simpa [copyLocs] using X0) ⟨hB0.1, fun _ _ => rfl, rfl⟩ (Laid.zero _ _ _) c2
  have c11 : Steps p.tables e below (s₁.setTop (entryFrame m #[.ref b, .int (Int32.ofNat o), .ref d, .int (Int32.ofNat q), .int (Int32.ofNat len)] 7)) (T9.setTop (mkF m 46 #[.val (.ref b), .val (.int (Int32.ofNat (o + len))), .val (.ref d), .val (.int (Int32.ofNat (q + len))), .val (.int (Int32.ofNat len)), .val (.int (Int32.ofNat len)), z9] [.int (Int32.ofNat len)])) := g9.trans (by
    refine XS.iload X9.here hexec rfl (hb hbytes d3) rfl ?_
    refine XS.iload X9.here hexec rfl (hb hbytes d5) rfl ?_
    refine XS.icmpYes X9.here hexec rfl (pc0 := 7) rfl (hb hbytes d7) rfl (ii_ge_t (nlt32 (by omega) (Nat.le_refl _))) (by decide) rfl ?_
    refine XS.iload X9.here hexec rfl (hb hbytes d44) rfl ?_
    exact Steps.refl _)
  exact ⟨T9, some (.int (Int32.ofNat len)), _, _, _, X9, by simp, rfl, rfl, (fun h => by cases h), ⟨rfl, B9, p9.from hh0, f9⟩, fun fs hl => c11.trans (X9.ireturnOut hexec hret rfl (Or.inl rfl) (hb hbytes d46) hl)⟩
end Cmp5
namespace Cmp3
def yN : MethodName := ⟨"java/lang/StringUTF16", "compress", "([CII)[B"⟩
abbrev yB : ByteArray := jdk_52_method_16_code
theorem d0 : decode yB 0 = .ok (.iload_n 2, 1) := by decide +kernel
theorem d1 : decode yB 1 = .ok (.newarray .byte, 2) := by decide +kernel
theorem d3 : decode yB 3 = .ok (.astore_n 3, 1) := by decide +kernel
theorem d4 : decode yB 4 = .ok (.aload_n 0, 1) := by decide +kernel
theorem d5 : decode yB 5 = .ok (.iload_n 1, 1) := by decide +kernel
theorem d6 : decode yB 6 = .ok (.aload_n 3, 1) := by decide +kernel
theorem d7 : decode yB 7 = .ok (.iconst 0, 1) := by decide +kernel
theorem d8 : decode yB 8 = .ok (.iload_n 2, 1) := by decide +kernel
theorem d9 : decode yB 9 = .ok (.invokestatic 115, 3) := by decide +kernel
theorem d12 : decode yB 12 = .ok (.istore 4, 2) := by decide +kernel
theorem d14 : decode yB 14 = .ok (.iload 4, 2) := by decide +kernel
theorem d16 : decode yB 16 = .ok (.iload_n 2, 1) := by decide +kernel
theorem d17 : decode yB 17 = .ok (.if_icmp (.eq) 40, 3) := by decide +kernel
theorem d57 : decode yB 57 = .ok (.aload_n 3, 1) := by decide +kernel
theorem d58 : decode yB 58 = .ok (.areturn, 1) := by decide +kernel
def site : List Cond := [.arrayClass .byte, Cmp5.tab] ++ staticW U16 115 Cmp5.yN
def tab : Cond := tabOf yN yB 6 (some (.array .byte)) site
def P (b : Addr) (A : Cell) (o len : Nat) (args : Array Value) (s : State) : Prop := args = #[.ref b, .int (Int32.ofNat o), .int (Int32.ofNat len)] ∧ Ch b A s ∧ o + len ≤ A.slots.size ∧ len ≤ 536870912 ∧ ∀ i, i < len → ¬ 255 < cv A (o + i)
def E (b : Addr) (A : Cell) (o len : Nat) (r : Option Value) (s u : State) : Prop := NewArr .byte "[B" len (fun j => .int (lo8 (cv A (o + j)))) r s u ∧ u.heap.size = s.heap.size + 1
/-- no char of the range above 255: a new byte[] of their low bytes -/
theorem law (l : Launch) (b : Addr) (A : Cell) (o len : Nat) : Law l yN 3 3 1 18 yB 6 (some (.array .byte)) site (P b A o len) (E b A o len) [] 1 len := by
  refine Law.of_walk (plainFor_of_name (by decide +kernel)) (by decide +kernel) (by decide +kernel) (by decide) (fun _ _ h => by rw [h.1]; rfl) (fun _ U U' hal hh h => ⟨h.1, h.2.1.mv hal hh, h.2.2⟩) (fun r U U' V V' h1 hal h2 h => ⟨NewArr.mv r U U' V V' h1 hal h2 h.1, by rw [h1, h2]; exact h.2⟩) ?_
  intro p e s m args below meth c s₁ X0 hexec hbytes hml hret hlk hnm hown hh0 W hP
  obtain ⟨rfl, hA, l1, l2, hp⟩ := hP
  have a31 := hA.1.2.2.2
  have c1 : Steps p.tables e below (s₁.setTop (entryFrame m #[.ref b, .int (Int32.ofNat o), .int (Int32.ofNat len)] 6)) (s₁.setTop (mkF m 0 #[.val (.ref b), .val (.int (Int32.ofNat o)), .val (.int (Int32.ofNat len)), .unset, .unset, .unset] [])) := entry rfl
  have c2 : Steps p.tables e below (s₁.setTop (entryFrame m #[.ref b, .int (Int32.ofNat o), .int (Int32.ofNat len)] 6)) (s₁.setTop (mkF m 1 #[.val (.ref b), .val (.int (Int32.ofNat o)), .val (.int (Int32.ofNat len)), .unset, .unset, .unset] [.int (Int32.ofNat len)])) := c1.trans (by
    refine XS.iloadN X0.here hexec rfl (hb hbytes d0) rfl ?_
    exact Steps.refl _)
  obtain ⟨T3, B3, X3, ba3, bs3, bv3, bh3, bf3, st3⟩ := X0.anew hexec (atype := .byte) (wk W (.arrayClass .byte)) rfl (by show len * 1 ≤ _; omega) (by omega) (g := (mkF m 1 #[.val (.ref b), .val (.int (Int32.ofNat o)), .val (.int (Int32.ofNat len)), .unset, .unset, .unset] [.int (Int32.ofNat len)])) rfl (hb hbytes d1) (rest := []) rfl (Nat.le_refl _) (by show 0 + len ≤ len; omega)
  rw [hh0] at ba3 st3
  have kp3 : XT.Kept s T3 := (XT.Kept.of_eq hh0).push bh3
  have hA3 := hA.keep X3.warmed.alike (kp3 _ _ hA.1.1)
  have hne : b ≠ s.heap.size := hA.1.ne
  have c4 : Steps p.tables e below (s₁.setTop (entryFrame m #[.ref b, .int (Int32.ofNat o), .int (Int32.ofNat len)] 6)) (T3.setTop (mkF m 3 #[.val (.ref b), .val (.int (Int32.ofNat o)), .val (.int (Int32.ofNat len)), .unset, .unset, .unset] [.ref s.heap.size])) := c2.trans (st3 _ (Steps.refl _))
  have c5 : Steps p.tables e below (s₁.setTop (entryFrame m #[.ref b, .int (Int32.ofNat o), .int (Int32.ofNat len)] 6)) (T3.setTop (mkF m 9 #[.val (.ref b), .val (.int (Int32.ofNat o)), .val (.int (Int32.ofNat len)), .val (.ref s.heap.size), .unset, .unset] [.int (Int32.ofNat len), .int 0, .ref s.heap.size, .int (Int32.ofNat o), .ref b])) := c4.trans (by
    refine XS.astoreN X3.here hexec rfl (hb hbytes d3) rfl rfl rfl ?_
    refine XS.aloadN X3.here hexec rfl (hb hbytes d4) rfl rfl ?_
    refine XS.iloadN X3.here hexec rfl (hb hbytes d5) rfl ?_
    refine XS.aloadN X3.here hexec rfl (hb hbytes d6) rfl rfl ?_
    refine iconstV X3.here hexec rfl 0 (hb hbytes d7) (by decide) ?_
    refine XS.iloadN X3.here hexec rfl (hb hbytes d8) rfl ?_
    exact Steps.refl _)
  obtain ⟨v6, T6, X6, E6, g6⟩ := X3.callS hexec (Cmp5.law l b A s.heap.size B3 o 0 len) hown (wks W (staticW U16 115 Cmp5.yN)) (wk W Cmp5.tab) (W := 0) (Nat.le_of_ble_eq_true rfl) (Nat.le_of_ble_eq_true rfl) (Nat.le_refl _) (by show 0 + len + 0 ≤ len; omega) (g := (mkF m 9 #[.val (.ref b), .val (.int (Int32.ofNat o)), .val (.int (Int32.ofNat len)), .val (.ref s.heap.size), .unset, .unset] [.int (Int32.ofNat len), .int (Int32.ofNat 0), .ref s.heap.size, .int (Int32.ofNat o), .ref b])) rfl (by rw [hml]; rfl) c5 (argsL := [.ref b, .int (Int32.ofNat o), .ref s.heap.size, .int (Int32.ofNat 0), .int (Int32.ofNat len)]) (rest := []) rfl rfl (by show 2 * 0 + 0 ≤ _; decide) (hb hbytes d9) (⟨rfl, hA3, ba3, hne, l1, by rw [bs3]; simp, hp⟩)
  obtain ⟨rfl, B6, p6, f6⟩ := E6
  have c7 : Steps p.tables e below (s₁.setTop (entryFrame m #[.ref b, .int (Int32.ofNat o), .int (Int32.ofNat len)] 6)) (T6.setTop (mkF m 12 #[.val (.ref b), .val (.int (Int32.ofNat o)), .val (.int (Int32.ofNat len)), .val (.ref s.heap.size), .unset, .unset] [.int (Int32.ofNat len)])) := g6
  have c8 : Steps p.tables e below (s₁.setTop (entryFrame m #[.ref b, .int (Int32.ofNat o), .int (Int32.ofNat len)] 6)) (T6.setTop (mkF m 58 #[.val (.ref b), .val (.int (Int32.ofNat o)), .val (.int (Int32.ofNat len)), .val (.ref s.heap.size), .val (.int (Int32.ofNat len)), .unset] [.ref s.heap.size])) := c7.trans (by
    refine XS.istore X6.here hexec rfl (hb hbytes d12) rfl rfl ?_
    refine XS.iload X6.here hexec rfl (hb hbytes d14) rfl ?_
    refine XS.iloadN X6.here hexec rfl (hb hbytes d16) rfl ?_
    refine XS.icmpYes X6.here hexec rfl (pc0 := 17) rfl (hb hbytes d17) rfl (ii_eq_t rfl) (by decide) rfl ?_
    refine XS.aloadN X6.here hexec rfl (hb hbytes d57) rfl rfl ?_
    exact Steps.refl _)
  have X8 := X6.wide (L' := []) (cells' := 1) (slots' := len) (fun x hx hlt => by
    simp only [List.nil_append, copyLocs, List.mem_map, List.mem_range] at hx
    obtain ⟨i, -, rfl⟩ := hx
    exact absurd hlt (Nat.lt_irrefl _)) (Nat.le_refl _) (by omega)
  exact ⟨T6, some (.ref s.heap.size), _, _, _, X8, rfl, rfl, rfl, (fun h => by cases h), ⟨⟨rfl, B6, ba3.like (X3.warmed.alike.symm.trans X6.warmed.alike) p6.1 f6.1 f6.2.1 f6.2.2.1, f6.2.1.trans bv3, by rw [X6.warmed.alike.findClass, f6.1]; exact bf3, by rw [f6.2.2.1, bs3]; simp, fun j hj => by rw [f6.2.2.2 j, if_pos (by omega)]; rfl, kp3.put p6 (Nat.le_refl _)⟩, by rw [p6.2.2, bh3, hh0]; simp⟩, fun fs hl => c8.trans (X8.areturnOut hexec rfl hret rfl (hb hbytes d58) hl)⟩
end Cmp3
namespace CodL
def yN : MethodName := ⟨"java/lang/StringUTF16", "coderFromArrayLen", "([BI)B"⟩
abbrev yB : ByteArray := jdk_52_method_15_code
theorem d0 : decode yB 0 = .ok (.iload_n 1, 1) := by decide +kernel
theorem d1 : decode yB 1 = .ok (.aload_n 0, 1) := by decide +kernel
theorem d2 : decode yB 2 = .ok (.arraylength, 1) := by decide +kernel
theorem d3 : decode yB 3 = .ok (.isub, 1) := by decide +kernel
theorem d4 : decode yB 4 = .ok (.bipush 31, 2) := by decide +kernel
theorem d6 : decode yB 6 = .ok (.iushr, 1) := by decide +kernel
theorem d7 : decode yB 7 = .ok (.i2b, 1) := by decide +kernel
theorem d8 : decode yB 8 = .ok (.ireturn, 1) := by decide +kernel
def site : List Cond := []
def tab : Cond := tabOf yN yB 2 (some .byte) site
def P (d : Addr) (B : Cell) (args : Array Value) (s : State) : Prop := args = #[.ref d, .int (Int32.ofNat B.slots.size)] ∧ Arr .byte d B s
def E (r : Option Value) (s u : State) : Prop := XT.PureE (some (.int 0)) r s u
/-- an array as long as the number of chars: LATIN1 -/
theorem law (l : Launch) (d : Addr) (B : Cell) : Law l yN 2 2 0 0 yB 2 (some .byte) site (P d B) E [] 0 0 := by
  refine Law.of_walk (plainFor_of_name (by decide +kernel)) (by decide +kernel) (by decide +kernel) (by decide) (fun _ _ h => by rw [h.1]; rfl) (fun _ U U' hal hh h => ⟨h.1, h.2.mv hal hh⟩) (fun r U U' V V' h1 hal h2 h => XT.PureE.mv r U U' V V' h1 hal h2 h) ?_
  intro p e s m args below meth c s₁ X0 hexec hbytes hml hret hlk hnm hown hh0 W hP
  obtain ⟨rfl, hB⟩ := hP
  have hB0 := hB.mv X0.warmed.alike hh0
  have c1 : Steps p.tables e below (s₁.setTop (entryFrame m #[.ref d, .int (Int32.ofNat B.slots.size)] 2)) (s₁.setTop (mkF m 0 #[.val (.ref d), .val (.int (Int32.ofNat B.slots.size))] [])) := entry rfl
  have c2 : Steps p.tables e below (s₁.setTop (entryFrame m #[.ref d, .int (Int32.ofNat B.slots.size)] 2)) (s₁.setTop (mkF m 2 #[.val (.ref d), .val (.int (Int32.ofNat B.slots.size))] [.ref d, .int (Int32.ofNat B.slots.size)])) := c1.trans (by
    refine XS.iloadN X0.here hexec rfl (hb hbytes d0) rfl ?_
    refine XS.aloadN X0.here hexec rfl (hb hbytes d1) rfl rfl ?_
    exact Steps.refl _)
  have c3 : Steps p.tables e below (s₁.setTop (entryFrame m #[.ref d, .int (Int32.ofNat B.slots.size)] 2)) (s₁.setTop (mkF m 8 #[.val (.ref d), .val (.int (Int32.ofNat B.slots.size))] [.int (lo8 (ushr (Int32.ofNat B.slots.size - Int32.ofNat B.slots.size) 31))])) := c2.trans (by
    refine X0.alen hexec hB0 rfl rfl (hb hbytes d2) ?_
    refine XS.isub X0.here hexec rfl (hb hbytes d3) rfl ?_
    refine bipushV X0.here hexec rfl 31 (hb hbytes d4) (by decide) ?_
    refine iushr X0.here hexec rfl (hb hbytes d6) rfl ?_
    refine i2b X0.here hexec rfl (hb hbytes d7) rfl ?_
    exact Steps.refl _)
  have e0 : lo8 (ushr (Int32.ofNat B.slots.size - Int32.ofNat B.slots.size) 31) = 0 := by rw [Int32.sub_self]; decide
  rw [e0] at c3
  exact ⟨s₁, some (.int 0), _, _, _, X0, rfl, rfl, rfl, (fun h => by cases h), ⟨rfl, hh0⟩, fun fs hl => c3.trans (X0.ireturnOut hexec hret rfl (Or.inr (Or.inr (Or.inl rfl))) (hb hbytes d8) hl)⟩
end CodL
/-- the String at a is Latin-1 over a new byte[] (the heap's one new cell): the low bytes of the len chars of A from o on; every cell but a is kept -/
def Got (a : Addr) (D : Cell) (fV fC : Field) (A : Cell) (o len : Nat) (r : Option Value) (s u : State) : Prop := r = none ∧ ∃ D' V : Cell, Blank "java/lang/String" a D' u ∧ Same D D' [fV.slot, fC.slot] ∧ D'.slots[fV.slot]? = some (.ref s.heap.size) ∧ D'.slots[fC.slot]? = some (.int 0) ∧ Arr .byte s.heap.size V u ∧ V.vm = .none ∧ u.vm.findClass "[B" = some V.cls ∧ V.slots.size = len ∧ (∀ j, j < len → V.slots[j]? = some (.int (lo8 (cv A (o + j))))) ∧ (∀ (y : Addr) (c : Cell), y ≠ a → s.heap[y]? = some c → u.heap[y]? = some c) ∧ u.heap.size = s.heap.size + 1
theorem Got.mv {a : Addr} {D A : Cell} {fV fC : Field} {o len : Nat} : ∀ r (U U' V V' : State), U'.heap = U.heap → V.vm.Alike V'.vm → V'.heap = V.heap → Got a D fV fC A o len r U V → Got a D fV fC A o len r U' V' :=
  fun r U U' V V' h1 hal h2 ⟨e0, D', X, a1, a2, a3, a4, a5, a6, a7, a8, a9, a10, a11⟩ => ⟨e0, D', X, a1.mv hal h2, a2, by rw [h1]; exact a3, a4, by rw [h1]; exact a5.mv hal h2, a6, by rw [hal.findClass]; exact a7, a8, a9, by rw [h1, h2]; exact a10, by rw [h1, h2]; exact a11⟩
namespace New4
def yN : MethodName := ⟨"java/lang/String", "<init>", "([CIILjava/lang/Void;)V"⟩
abbrev yB : ByteArray := jdk_42_method_149_code
theorem d0 : decode yB 0 = .ok (.aload_n 0, 1) := by decide +kernel
theorem d1 : decode yB 1 = .ok (.invokespecial 1, 3) := by decide +kernel
theorem d4 : decode yB 4 = .ok (.iload_n 3, 1) := by decide +kernel
theorem d5 : decode yB 5 = .ok (.ifCond (.ne) 22, 3) := by decide +kernel
theorem d27 : decode yB 27 = .ok (.getstatic 38, 3) := by decide +kernel
theorem d30 : decode yB 30 = .ok (.ifCond (.eq) 28, 3) := by decide +kernel
theorem d33 : decode yB 33 = .ok (.aload_n 1, 1) := by decide +kernel
theorem d34 : decode yB 34 = .ok (.iload_n 2, 1) := by decide +kernel
theorem d35 : decode yB 35 = .ok (.iload_n 3, 1) := by decide +kernel
theorem d36 : decode yB 36 = .ok (.invokestatic 177, 3) := by decide +kernel
theorem d39 : decode yB 39 = .ok (.astore 5, 2) := by decide +kernel
theorem d41 : decode yB 41 = .ok (.aload_n 0, 1) := by decide +kernel
theorem d42 : decode yB 42 = .ok (.aload 5, 2) := by decide +kernel
theorem d44 : decode yB 44 = .ok (.iload_n 3, 1) := by decide +kernel
theorem d45 : decode yB 45 = .ok (.invokestatic 47, 3) := by decide +kernel
theorem d48 : decode yB 48 = .ok (.putfield 15, 3) := by decide +kernel
theorem d51 : decode yB 51 = .ok (.aload_n 0, 1) := by decide +kernel
theorem d52 : decode yB 52 = .ok (.aload 5, 2) := by decide +kernel
theorem d54 : decode yB 54 = .ok (.putfield 9, 3) := by decide +kernel
theorem d57 : decode yB 57 = .ok (.return_, 1) := by decide +kernel
def site : List Cond := [.fieldLink "java/lang/String" 38 "java/lang/String" "COMPACT_STRINGS" "Z", Cmp3.tab, CodL.tab, .laysFinal "java/lang/String" "java/lang/String" "value" "[B", .fieldLink "java/lang/String" 9 "java/lang/String" "value" "[B", .laysFinal "java/lang/String" "java/lang/String" "coder" "B", .fieldLink "java/lang/String" 15 "java/lang/String" "coder" "B"] ++ objW "java/lang/String" 1 ++ staticW "java/lang/String" 177 Cmp3.yN ++ staticW "java/lang/String" 47 CodL.yN
def tab : Cond := tabOf yN yB 6 none site
def P (a : Addr) (D : Cell) (fV fC : Field) (b : Addr) (A : Cell) (z : Int32) (o len : Nat) (args : Array Value) (s : State) : Prop := args = #[.ref a, .ref b, .int (Int32.ofNat o), .int (Int32.ofNat len), .null] ∧ Blank "java/lang/String" a D s ∧ Found "java/lang/String" "value" "[B" fV s ∧ Found "java/lang/String" "coder" "B" fC s ∧ Ch b A s ∧ StaticIs s "java/lang/String" "COMPACT_STRINGS" "Z" (.int z) ∧ ¬ z = 0 ∧ 0 < len ∧ o + len ≤ A.slots.size ∧ len ≤ 536870912 ∧ ∀ i, i < len → ¬ 255 < cv A (o + i)
def E (a : Addr) (D : Cell) (fV fC : Field) (A : Cell) (o len : Nat) (r : Option Value) (s u : State) : Prop := Got a D fV fC A o len r s u
/-- len > 0, no char of the range above 255: a Latin-1 String of their low bytes -/
theorem law (l : Launch) (a : Addr) (D : Cell) (fV fC : Field) (b : Addr) (A : Cell) (z : Int32) (o len : Nat) : Law l yN 5 4 2 35 yB 6 none site (P a D fV fC b A z o len) (E a D fV fC A o len) [⟨a, fC.slot⟩, ⟨a, fV.slot⟩] 1 len := by
  refine Law.of_walk (plainFor_of_name (by decide +kernel)) (by decide +kernel) (by decide +kernel) (by decide) (fun _ _ h => by rw [h.1]; rfl) (fun _ U U' hal hh h => ⟨h.1, h.2.1.mv hal hh, h.2.2.1.al hal, h.2.2.2.1.al hal, h.2.2.2.2.1.mv hal hh, h.2.2.2.2.2.1.there hal hh, h.2.2.2.2.2.2⟩) (fun r U U' V V' h1 hal h2 h => Got.mv r U U' V V' h1 hal h2 h) ?_
  intro p e s m args below meth c s₁ X0 hexec hbytes hml hret hlk hnm hown hh0 W hP
  obtain ⟨rfl, hB, f1, f2, hA, s1, hz, l0, l1, l2, hp⟩ := hP
  have a31 := hA.1.2.2.2
  have c1 : Steps p.tables e below (s₁.setTop (entryFrame m #[.ref a, .ref b, .int (Int32.ofNat o), .int (Int32.ofNat len), .null] 6)) (s₁.setTop (mkF m 0 #[.val (.ref a), .val (.ref b), .val (.int (Int32.ofNat o)), .val (.int (Int32.ofNat len)), .val .null, .unset] [])) := entry rfl
  have c2 : Steps p.tables e below (s₁.setTop (entryFrame m #[.ref a, .ref b, .int (Int32.ofNat o), .int (Int32.ofNat len), .null] 6)) (s₁.setTop (mkF m 1 #[.val (.ref a), .val (.ref b), .val (.int (Int32.ofNat o)), .val (.int (Int32.ofNat len)), .val .null, .unset] [.ref a])) := c1.trans (by
    refine XS.aloadN X0.here hexec rfl (hb hbytes d0) rfl rfl ?_
    exact Steps.refl _)
  obtain ⟨T3, X3, q3, st3⟩ := X0.oinit hexec hown (wks W (objW "java/lang/String" 1)) (g := (mkF m 1 #[.val (.ref a), .val (.ref b), .val (.int (Int32.ofNat o)), .val (.int (Int32.ofNat len)), .val .null, .unset] [.ref a])) rfl (by rw [hml]; rfl) (rest := []) rfl (hb hbytes d1) (W := 0) (by show 2 * 0 + 0 ≤ _; decide) (Nat.le_of_ble_eq_true rfl) (Nat.le_of_ble_eq_true rfl)
  have hh3 := q3.trans hh0
  have c4 : Steps p.tables e below (s₁.setTop (entryFrame m #[.ref a, .ref b, .int (Int32.ofNat o), .int (Int32.ofNat len), .null] 6)) (T3.setTop (mkF m 27 #[.val (.ref a), .val (.ref b), .val (.int (Int32.ofNat o)), .val (.int (Int32.ofNat len)), .val .null, .unset] [])) := (c2.trans (st3 _ (Steps.refl _))).trans (by
    refine XS.iloadN X3.here hexec rfl (hb hbytes d4) rfl ?_
    refine XS.ifYes X3.here hexec rfl (pc0 := 5) rfl (hb hbytes d5) rfl (i0_ne_t (nz32 (by omega) l0)) (by decide) rfl ?_
    exact Steps.refl _)
  obtain ⟨T5, X5, q5, st5⟩ := X3.sget hexec hown (wk W (.fieldLink "java/lang/String" 38 "java/lang/String" "COMPACT_STRINGS" "Z")) s1 (fun _ _ h => by rw [hh3]; exact h) (g := (mkF m 27 #[.val (.ref a), .val (.ref b), .val (.int (Int32.ofNat o)), .val (.int (Int32.ofNat len)), .val .null, .unset] [])) rfl (hb hbytes d27)
  have hh5 := q5.trans hh3
  have c6 : Steps p.tables e below (s₁.setTop (entryFrame m #[.ref a, .ref b, .int (Int32.ofNat o), .int (Int32.ofNat len), .null] 6)) (T5.setTop (mkF m 30 #[.val (.ref a), .val (.ref b), .val (.int (Int32.ofNat o)), .val (.int (Int32.ofNat len)), .val .null, .unset] [.int z])) := c4.trans (st5 _ (Steps.refl _))
  have c7 : Steps p.tables e below (s₁.setTop (entryFrame m #[.ref a, .ref b, .int (Int32.ofNat o), .int (Int32.ofNat len), .null] 6)) (T5.setTop (mkF m 36 #[.val (.ref a), .val (.ref b), .val (.int (Int32.ofNat o)), .val (.int (Int32.ofNat len)), .val .null, .unset] [.int (Int32.ofNat len), .int (Int32.ofNat o), .ref b])) := c6.trans (by
    refine XS.ifNo X5.here hexec rfl (hb hbytes d30) rfl (i0_eq_f hz) ?_
    refine XS.aloadN X5.here hexec rfl (hb hbytes d33) rfl rfl ?_
    refine XS.iloadN X5.here hexec rfl (hb hbytes d34) rfl ?_
    refine XS.iloadN X5.here hexec rfl (hb hbytes d35) rfl ?_
    exact Steps.refl _)
  obtain ⟨v8, T8, X8, E8, g8⟩ := X5.callS hexec (Cmp3.law l b A o len) hown (wks W (staticW "java/lang/String" 177 Cmp3.yN)) (wk W Cmp3.tab) (W := 0) (Nat.le_of_ble_eq_true rfl) (Nat.le_of_ble_eq_true rfl) (Nat.le_refl _) (by show 0 + len ≤ len; omega) (g := (mkF m 36 #[.val (.ref a), .val (.ref b), .val (.int (Int32.ofNat o)), .val (.int (Int32.ofNat len)), .val .null, .unset] [.int (Int32.ofNat len), .int (Int32.ofNat o), .ref b])) rfl (by rw [hml]; rfl) c7 (argsL := [.ref b, .int (Int32.ofNat o), .int (Int32.ofNat len)]) (rest := []) rfl rfl (by show 2 * 0 + 0 ≤ _; decide) (hb hbytes d36) (⟨rfl, hA.mv X5.warmed.alike hh5, l1, l2, hp⟩)
  obtain ⟨e8, z8⟩ := E8
  obtain ⟨rfl, N, n1, n2, n3, n4, n5, n6⟩ := NewArr.mv _ T5 s _ _ hh5.symm (Vm.Alike.refl _) rfl e8
  rw [hh5] at z8
  have hB1 := hB.keep X8.warmed.alike (n6 _ _ hB.1)
  have hne : s.heap.size ≠ a := (Nat.ne_of_lt (Array.getElem?_eq_some_iff.mp hB.1).1).symm
  have c9 : Steps p.tables e below (s₁.setTop (entryFrame m #[.ref a, .ref b, .int (Int32.ofNat o), .int (Int32.ofNat len), .null] 6)) (T8.setTop (mkF m 39 #[.val (.ref a), .val (.ref b), .val (.int (Int32.ofNat o)), .val (.int (Int32.ofNat len)), .val .null, .unset] [.ref s.heap.size])) := g8
  have c10 : Steps p.tables e below (s₁.setTop (entryFrame m #[.ref a, .ref b, .int (Int32.ofNat o), .int (Int32.ofNat len), .null] 6)) (T8.setTop (mkF m 45 #[.val (.ref a), .val (.ref b), .val (.int (Int32.ofNat o)), .val (.int (Int32.ofNat len)), .val .null, .val (.ref s.heap.size)] [.int (Int32.ofNat N.slots.size), .ref s.heap.size, .ref a])) := by
    have hc : Steps p.tables e below (s₁.setTop (entryFrame m #[.ref a, .ref b, .int (Int32.ofNat o), .int (Int32.ofNat len), .null] 6)) (T8.setTop (mkF m 45 #[.val (.ref a), .val (.ref b), .val (.int (Int32.ofNat o)), .val (.int (Int32.ofNat len)), .val .null, .val (.ref s.heap.size)] [.int (Int32.ofNat len), .ref s.heap.size, .ref a])) := c9.trans (by
      refine XS.astore X8.here hexec rfl (hb hbytes d39) rfl rfl rfl ?_
      refine XS.aloadN X8.here hexec rfl (hb hbytes d41) rfl rfl ?_
      refine XS.aload X8.here hexec rfl (hb hbytes d42) rfl rfl ?_
      refine XS.iloadN X8.here hexec rfl (hb hbytes d44) rfl ?_
      exact Steps.refl _)
    rw [n4]; exact hc
  obtain ⟨v11, T11, X11, E11, g11⟩ := X8.callS hexec (CodL.law l s.heap.size N) hown (wks W (staticW "java/lang/String" 47 CodL.yN)) (wk W CodL.tab) (W := 1) (Nat.le_of_ble_eq_true rfl) (Nat.le_of_ble_eq_true rfl) (Nat.le_refl _) (by show 0 + len + 0 ≤ len; omega) (g := (mkF m 45 #[.val (.ref a), .val (.ref b), .val (.int (Int32.ofNat o)), .val (.int (Int32.ofNat len)), .val .null, .val (.ref s.heap.size)] [.int (Int32.ofNat N.slots.size), .ref s.heap.size, .ref a])) rfl (by rw [hml]; rfl) c10 (argsL := [.ref s.heap.size, .int (Int32.ofNat N.slots.size)]) (rest := [.ref a]) rfl rfl (by show 2 * 0 + (1 + 0) ≤ _; decide) (hb hbytes d45) (⟨rfl, n1⟩)
  obtain ⟨rfl, q11⟩ := E11
  have hB11 := hB1.mv (X8.warmed.alike.symm.trans X11.warmed.alike) q11
  have c12 : Steps p.tables e below (s₁.setTop (entryFrame m #[.ref a, .ref b, .int (Int32.ofNat o), .int (Int32.ofNat len), .null] 6)) (T11.setTop (mkF m 48 #[.val (.ref a), .val (.ref b), .val (.int (Int32.ofNat o)), .val (.int (Int32.ofNat len)), .val .null, .val (.ref s.heap.size)] [.int 0, .ref a])) := g11
  obtain ⟨T13, X13, p13, bl13, sl13, st13⟩ := X11.finit hexec hown (wk W (.fieldLink "java/lang/String" 15 "java/lang/String" "coder" "B")) (Or.inr ⟨_, (wk W (.laysFinal "java/lang/String" "java/lang/String" "coder" "B"))⟩) (Or.inl ⟨rfl, hnm⟩) f2 (Or.inl rfl) hB11 (t := .byte) (by decide +kernel) rfl (g := (mkF m 48 #[.val (.ref a), .val (.ref b), .val (.int (Int32.ofNat o)), .val (.int (Int32.ofNat len)), .val .null, .val (.ref s.heap.size)] [.int 0, .ref a])) rfl (rest := []) rfl (hb hbytes d48)
  have c14 : Steps p.tables e below (s₁.setTop (entryFrame m #[.ref a, .ref b, .int (Int32.ofNat o), .int (Int32.ofNat len), .null] 6)) (T13.setTop (mkF m 54 #[.val (.ref a), .val (.ref b), .val (.int (Int32.ofNat o)), .val (.int (Int32.ofNat len)), .val .null, .val (.ref s.heap.size)] [.ref s.heap.size, .ref a])) := (c12.trans (st13 _ (Steps.refl _))).trans (by
    refine XS.aloadN X13.here hexec rfl (hb hbytes d51) rfl rfl ?_
    refine XS.aload X13.here hexec rfl (hb hbytes d52) rfl rfl ?_
    exact Steps.refl _)
  obtain ⟨T15, X15, p15, bl15, sl15, st15⟩ := X13.finit hexec hown (wk W (.fieldLink "java/lang/String" 9 "java/lang/String" "value" "[B")) (Or.inr ⟨_, (wk W (.laysFinal "java/lang/String" "java/lang/String" "value" "[B"))⟩) (Or.inl ⟨rfl, hnm⟩) f1 (Or.inl rfl) bl13 (t := (.array .byte)) (by decide +kernel) rfl (g := (mkF m 54 #[.val (.ref a), .val (.ref b), .val (.int (Int32.ofNat o)), .val (.int (Int32.ofNat len)), .val .null, .val (.ref s.heap.size)] [.ref s.heap.size, .ref a])) rfl (rest := []) rfl (hb hbytes d54)
  have c16 : Steps p.tables e below (s₁.setTop (entryFrame m #[.ref a, .ref b, .int (Int32.ofNat o), .int (Int32.ofNat len), .null] 6)) (T15.setTop (mkF m 57 #[.val (.ref a), .val (.ref b), .val (.int (Int32.ofNat o)), .val (.int (Int32.ofNat len)), .val .null, .val (.ref s.heap.size)] [])) := c14.trans (st15 _ (Steps.refl _))
  have ap := apart (Or.inr ⟨_, (wk W (.laysFinal "java/lang/String" "java/lang/String" "value" "[B"))⟩) (Or.inr ⟨_, (wk W (.laysFinal "java/lang/String" "java/lang/String" "coder" "B"))⟩) f1 f2 (t₁ := .array .byte) (t₂ := .byte) (by decide +kernel) (by decide +kernel) (by decide)
  have al := X8.warmed.alike.symm.trans X15.warmed.alike
  have n7 : T11.heap[s.heap.size]? = some N := by rw [q11]; exact n1.1
  exact ⟨T15, none, _, _, _, X15, by simp, rfl, by omega, (fun _ => rfl), ⟨rfl, _, N, bl15, ((Same.refl D _).set _ (by simp)).set _ (by simp), sl15, (Cell.slots_setSlot_ne _ ap).trans sl13, n1.keep al (p15.other hne (p13.other hne n7)), n2, by rw [al.findClass]; exact n3, n4, n5, fun y c h1 h2 => p15.other h1 (p13.other h1 (by rw [q11]; exact n6 y c h2)), by rw [p15.2.2, p13.2.2, q11]; exact z8⟩, fun fs hl => c16.trans (X15.returnOut hexec hret (hb hbytes d57) hl)⟩
end New4
namespace New1
def yN : MethodName := ⟨"java/lang/String", "<init>", "([C)V"⟩
abbrev yB : ByteArray := jdk_42_method_3_code
theorem d0 : decode yB 0 = .ok (.aload_n 0, 1) := by decide +kernel
theorem d1 : decode yB 1 = .ok (.aload_n 1, 1) := by decide +kernel
theorem d2 : decode yB 2 = .ok (.iconst 0, 1) := by decide +kernel
theorem d3 : decode yB 3 = .ok (.aload_n 1, 1) := by decide +kernel
theorem d4 : decode yB 4 = .ok (.arraylength, 1) := by decide +kernel
theorem d5 : decode yB 5 = .ok (.aconst_null, 1) := by decide +kernel
theorem d6 : decode yB 6 = .ok (.invokespecial 27, 3) := by decide +kernel
theorem d9 : decode yB 9 = .ok (.return_, 1) := by decide +kernel
def site : List Cond := [New4.tab] ++ initW "java/lang/String" 27 New4.yN
def tab : Cond := tabOf yN yB 2 none site
def P (a : Addr) (D : Cell) (fV fC : Field) (b : Addr) (A : Cell) (z : Int32) (args : Array Value) (s : State) : Prop := args = #[.ref a, .ref b] ∧ Blank "java/lang/String" a D s ∧ Found "java/lang/String" "value" "[B" fV s ∧ Found "java/lang/String" "coder" "B" fC s ∧ Ch b A s ∧ StaticIs s "java/lang/String" "COMPACT_STRINGS" "Z" (.int z) ∧ ¬ z = 0 ∧ 0 < A.slots.size ∧ A.slots.size ≤ 536870912 ∧ ∀ i, i < A.slots.size → ¬ 255 < cv A i
def E (a : Addr) (D : Cell) (fV fC : Field) (A : Cell) (r : Option Value) (s u : State) : Prop := Got a D fV fC A 0 A.slots.size r s u
/-- new String(chars), not empty, no char above 255: a Latin-1 String of their low bytes -/
theorem law (l : Launch) (a : Addr) (D : Cell) (fV fC : Field) (b : Addr) (A : Cell) (z : Int32) : Law l yN 2 1 3 52 yB 2 none site (P a D fV fC b A z) (E a D fV fC A) [⟨a, fC.slot⟩, ⟨a, fV.slot⟩] 1 A.slots.size := by
  refine Law.of_walk (plainFor_of_name (by decide +kernel)) (by decide +kernel) (by decide +kernel) (by decide) (fun _ _ h => by rw [h.1]; rfl) (fun _ U U' hal hh h => ⟨h.1, h.2.1.mv hal hh, h.2.2.1.al hal, h.2.2.2.1.al hal, h.2.2.2.2.1.mv hal hh, h.2.2.2.2.2.1.there hal hh, h.2.2.2.2.2.2⟩) (fun r U U' V V' h1 hal h2 h => Got.mv r U U' V V' h1 hal h2 h) ?_
  intro p e s m args below meth c s₁ X0 hexec hbytes hml hret hlk hnm hown hh0 W hP
  obtain ⟨rfl, hB, f1, f2, hA, s1, hz, l0, l2, hp⟩ := hP
  have c1 : Steps p.tables e below (s₁.setTop (entryFrame m #[.ref a, .ref b] 2)) (s₁.setTop (mkF m 0 #[.val (.ref a), .val (.ref b)] [])) := entry rfl
  have c2 : Steps p.tables e below (s₁.setTop (entryFrame m #[.ref a, .ref b] 2)) (s₁.setTop (mkF m 6 #[.val (.ref a), .val (.ref b)] [.null, .int (Int32.ofNat A.slots.size), .int 0, .ref b, .ref a])) := c1.trans (by
    refine XS.aloadN X0.here hexec rfl (hb hbytes d0) rfl rfl ?_
    refine XS.aloadN X0.here hexec rfl (hb hbytes d1) rfl rfl ?_
    refine iconstV X0.here hexec rfl 0 (hb hbytes d2) (by decide) ?_
    refine XS.aloadN X0.here hexec rfl (hb hbytes d3) rfl rfl ?_
    refine X0.alen hexec (hA.1.mv X0.warmed.alike hh0) rfl rfl (hb hbytes d4) ?_
    refine XS.aconstNull X0.here hexec rfl (hb hbytes d5) ?_
    exact Steps.refl _)
  obtain ⟨v3, T3, X3, E3, g3⟩ := X0.callN hexec (New4.law l a D fV fC b A z 0 A.slots.size) rfl hown (wks W (initW "java/lang/String" 27 New4.yN)) (W New4.tab (by simp only [site, List.mem_cons, List.mem_append, true_or, or_true])) (W := 0) (Nat.le_of_ble_eq_true rfl) (Nat.le_of_ble_eq_true rfl) (Nat.le_refl _) (by show 0 + A.slots.size ≤ A.slots.size; omega) (g := (mkF m 6 #[.val (.ref a), .val (.ref b)] [.null, .int (Int32.ofNat A.slots.size), .int (Int32.ofNat 0), .ref b, .ref a])) rfl (by rw [hml]; rfl) c2 (argsL := [.ref b, .int (Int32.ofNat 0), .int (Int32.ofNat A.slots.size), .null]) (rest := []) rfl rfl (by show 2 * 0 + 0 ≤ _; decide) (hb hbytes d6) (⟨rfl, hB.mv X0.warmed.alike hh0, f1.al X0.warmed.alike, f2.al X0.warmed.alike, hA.mv X0.warmed.alike hh0, s1.there X0.warmed.alike hh0, hz, l0, by omega, l2, fun i hi => by rw [Nat.zero_add]; exact hp i hi⟩)
  have e0 := Got.mv _ s₁ s _ _ hh0.symm (Vm.Alike.refl _) rfl E3
  obtain rfl := e0.1
  have c4 : Steps p.tables e below (s₁.setTop (entryFrame m #[.ref a, .ref b] 2)) (T3.setTop (mkF m 9 #[.val (.ref a), .val (.ref b)] [])) := g3
  exact ⟨T3, none, _, _, _, X3, by simp, rfl, by omega, (fun _ => rfl), e0, fun fs hl => c4.trans (X3.returnOut hexec hret (hb hbytes d9) hl)⟩
theorem pays {l : Launch} {R : Room} {p : Program} {e : Env} {below : List Frame} {s : State} {sargs : Array Value} {len W : Nat} (a : Addr) (D : Cell) (fV fC : Field) (b : Addr) (A : Cell) (z : Int32) (htab : tab.before sargs s = true) (hfr : 4 ≤ R.frames) (hlo : W + 65 ≤ R.locals) :
    Back l R p e below s sargs yN len W (fun A₁ a₁ => A₁.cells + 1 ≤ R.cells ∧ A₁.slots + A.slots.size ≤ R.slots ∧ P a D fV fC b A z a₁ A₁.U) (fun A₁ _ v₁ B₁ => E a D fV fC A v₁ A₁.U B₁.U ∧ B₁.locs = A₁.locs ++ [⟨a, fC.slot⟩, ⟨a, fV.slot⟩] ∧ B₁.cells = A₁.cells + 1 ∧ B₁.slots = A₁.slots + A.slots.size) :=
  (law l a D fV fC b A z).pays htab hfr (by omega)
end New1
end StrChars
namespace StrChars.Road
open Jvm Sem ClassFile Op Lib Jvm.Stand Jvm.Free Jvm.Free.XT
open Jvm.Lib.Cold (StaticIs)
abbrev ST : String := "java/lang/String"
/-- every table word that New1's law asks, flat -/
abbrev words : List Jvm.Cond := [.code New1.yN New1.yB 2 none, .initialized ST, .methodLink ST 27 New4.yN, .instanceMethod New4.yN,
  .code New4.yN New4.yB 6 none, .fieldLink ST 38 ST "COMPACT_STRINGS" "Z", .laysFinal ST ST "value" "[B", .fieldLink ST 9 ST "value" "[B", .laysFinal ST ST "coder" "B", .fieldLink ST 15 ST "coder" "B",
  .methodLink ST 1 Lib.objectInit, .instanceMethod Lib.objectInit, .code Lib.objectInit ⟨#[0xb1]⟩ 1 none, .methodLink ST 177 Cmp3.yN, .static Cmp3.yN, .methodLink ST 47 CodL.yN, .static CodL.yN,
  .code Cmp3.yN Cmp3.yB 6 (some (.array .byte)), .initialized U16, .arrayClass .byte, .methodLink U16 115 Cmp5.yN, .static Cmp5.yN, .code Cmp5.yN Cmp5.yB 7 (some .int), .code CodL.yN CodL.yB 2 (some .byte)]
theorem tab_of {a : Array Value} {s : State} (h : ∀ w ∈ words, w.before a s = true) : New1.tab.before a s = true := by
  have h5 : Cmp5.tab.before a s = true := unparts (wk h (.code Cmp5.yN Cmp5.yB 7 (some .int))) (wks h (.initialized Cmp5.yN.cls :: Cmp5.site))
  have hc : CodL.tab.before a s = true := unparts (wk h (.code CodL.yN CodL.yB 2 (some .byte))) (wks h (.initialized CodL.yN.cls :: CodL.site))
  have q5 : ∀ w ∈ Cmp5.tab :: words, w.before a s = true := fun w hw => (List.mem_cons.mp hw).elim (fun e => e ▸ h5) (h w)
  have h3 : Cmp3.tab.before a s = true := unparts (wk q5 (.code Cmp3.yN Cmp3.yB 6 (some (.array .byte)))) (wks q5 (.initialized Cmp3.yN.cls :: Cmp3.site))
  have q3 : ∀ w ∈ Cmp3.tab :: CodL.tab :: words, w.before a s = true := fun w hw => (List.mem_cons.mp hw).elim (fun e => e ▸ h3) fun hw => (List.mem_cons.mp hw).elim (fun e => e ▸ hc) (h w)
  have h4 : New4.tab.before a s = true := unparts (wk q3 (.code New4.yN New4.yB 6 none)) (wks q3 (.initialized New4.yN.cls :: New4.site))
  have q4 : ∀ w ∈ New4.tab :: words, w.before a s = true := fun w hw => (List.mem_cons.mp hw).elim (fun e => e ▸ h4) (h w)
  exact unparts (wk q4 (.code New1.yN New1.yB 2 none)) (wks q4 (.initialized New1.yN.cls :: New1.site))
/-- the words ride from the start Z to the walk's own state -/
theorem moved {Z s : State} {a0 args : Array Value} (hZ : Z.Warmed39 s.vm) (hw : ∀ d ∈ words, d.before a0 Z = true) : ∀ d ∈ words, d.before args s = true := fun d hd => by
  have q := hw d hd
  have t : ∀ d ∈ words, d = .arrayClass .byte ∨ (d.onTables && d.keepsFace) = true := by decide +kernel
  rcases t d hd with rfl | t
  · exact RoadKit.mvA hZ q
  · exact RoadKit.mv hZ q t
/-- WHAT COMES BACK, over the tables of the start Z: h the heap at the call, h' behind it -/
def Q (Z : State) (x : Addr) (A : Cell) (h : Heap) (v : Option Value) (h' : Heap) (L : List Loc) : Prop := v = none ∧ (∀ y ∈ L, y.base = x) ∧ RoadKit.Keep h h' [x] ∧ h'.size = h.size + 1 ∧ RoadKit.Exa Z h' x ST ∧ RoadKit.Fld Z h' x ST "value" "[B" (.ref h.size) ∧ RoadKit.Fld Z h' x ST "coder" "B" (.int 0) ∧
  (∃ V : Cell, RoadKit.Arr Z h' h.size V .byte ∧ V.vm = .none ∧ Z.vm.findClass "[B" = some V.cls ∧ V.slots.size = A.slots.size ∧ ∀ j, j < A.slots.size → V.slots[j]? = some (.int (lo8 (cv A j)))) ∧
  ∀ (O n d : String) (w : Value), RoadKit.Fld Z h x O n d w → RoadKit.slotOf Z O n d ≠ RoadKit.slotOf Z ST "value" "[B" → RoadKit.slotOf Z O n d ≠ RoadKit.slotOf Z ST "coder" "B" → RoadKit.Fld Z h' x O n d w
/-- **new String(chars) AT A CALL, IN THE ROAD'S FORM**: for specialBack behind newO: x the fresh String, b the char[] with the cell A -/
theorem back {p : Program} {l : Launch} {e : Env} {R : Room} {s : State} {args : Array Value} {below : List Frame} {len W : Nat} {Z : State} {a0 : Array Value} {h : Heap} (hZ : Z.Warmed39 s.vm) (hw : ∀ d ∈ words, d.before a0 Z = true) {kI : Nat} (wi : (Jvm.Cond.instantiable ST kI).before a0 Z = true)
    {x b : Addr} {A : Cell} {z : Int32} {v0 c0 : Value} (E : RoadKit.Exa Z h x ST) (V : RoadKit.Fld Z h x ST "value" "[B" v0) (C : RoadKit.Fld Z h x ST "coder" "B" c0) (K : RoadKit.Arr Z h b A .char) (hty : Typed .char A) (S : RoadKit.Sta Z h ST "COMPACT_STRINGS" "Z" (.int z)) (hz : ¬ z = 0)
    (l0 : 0 < A.slots.size) (l2 : A.slots.size ≤ 536870912) (hp : ∀ i, i < A.slots.size → ¬ 255 < cv A i) (hfr : 4 ≤ R.frames) (hlo : W + 65 ≤ R.locals) :
    Back l R p e below s args New1.yN len W (fun P a => a = #[.ref x, .ref b] ∧ P.U.heap = h ∧ P.cells + 1 ≤ R.cells ∧ P.slots + A.slots.size ≤ R.slots)
      (fun P _ v B => ∃ L, Q Z x A h v B.U.heap L ∧ B.locs = P.locs ++ L ∧ B.cells = P.cells + 1 ∧ B.slots = P.slots + A.slots.size) := by
  intro m meth c P g ig mk a X hg hsize hdg hW hn hp'
  obtain ⟨rfl, rfl, r1, r2⟩ := hp'
  have al : Z.vm.Alike P.U.vm := hZ.alike.trans X.warmed.alike
  obtain ⟨D, cfV, kV, iV, fV, hD, gV, stV, knV, obV, asV, slV⟩ := id V
  obtain ⟨D', cfC, kC, iC, fC, hD', gC, stC, -, -, asC, slC⟩ := id C
  cases hD.symm.trans hD'
  obtain ⟨D2, kD, e1, e2, e3, e4, e5⟩ := id E
  cases hD.symm.trans e1
  obtain ⟨c2, k2, i1, i2, i3, -⟩ := Cond.instantiable_spec wi
  cases e2.symm.trans i1
  cases e3.symm.trans i2
  obtain ⟨kU, u1, u2⟩ := al.2.2 _ _ e3
  have hB : Blank ST x D P.U := ⟨hD, ⟨knV, fun q hq => by rw [hq] at obV; cases obV⟩, by rw [al.findClass]; exact e2, kU, u1, by rw [u2]; exact i3, by rw [u2]; exact e5 i3⟩
  have F1 : Found ST "value" "[B" fV P.U := ⟨SBG.found_only al ⟨cfV, kV, iV, gV⟩, stV⟩
  have F2 : Found ST "coder" "B" fC P.U := ⟨SBG.found_only al ⟨cfC, kC, iC, gC⟩, stC⟩
  have hA : Ch b A P.U := ⟨⟨K.1, State.isArrayOf_alike al K.2.1, K.2.2, by omega⟩, hty⟩
  have hS : StaticIs P.U ST "COMPACT_STRINGS" "Z" (.int z) := by
    obtain ⟨cfS, iS, kS, fS, st, cS, t1, t2, t3, t4, t5, t6, t7⟩ := S
    exact StaticIs.there (s := { Z with heap := P.U.heap }) ⟨cfS, iS, kS, fS, st, cS, t1, t2, t3, t4, t5, (fun q => by rw [q] at t6; cases t6), t7⟩ al rfl
  obtain ⟨v, B, X', ⟨⟨hv, E', V', q1, q2, q3, q4, q5, q6, q7, q8, q9, q10, q11⟩, hl, hc, hs⟩, st⟩ := New1.pays x D fV fC b A z (tab_of (moved hZ hw)) hfr hlo m meth c P g ig mk _ X hg hsize hdg hW hn ⟨r1, r2, rfl, hB, F1, F2, hA, hS, hz, l0, l2, hp⟩
  have al' : Z.vm.Alike B.U.vm := hZ.alike.trans X'.warmed.alike
  have hsz : E'.slots.size = D.slots.size := by
    obtain ⟨-, -, -, kB, w1, w2, w3⟩ := q1
    obtain ⟨kB', y1, y2⟩ := al'.2.2 _ _ e3
    rw [q2.2.1] at w1
    cases w1.symm.trans y1
    rw [w3, e5 i3, y2]
  refine ⟨v, B, X', ⟨_, ⟨hv, ?_, ⟨by omega, fun y cy hy hn' => q10 y cy (by simpa using hn') hy, fun y cy hy => ?_⟩, q11, ⟨E', _, q1.1, by rw [q2.2.1]; exact e2, by rw [q2.2.1]; exact e3, by rw [q2.1]; exact obV, fun _ => by rw [hsz]; exact e5 i3⟩,
    ⟨E', cfV, kV, iV, fV, q1.1, gV, stV, by rw [q2.1]; exact knV, by rw [q2.1]; exact obV, by rw [q2.2.1]; exact asV, q3⟩, ⟨E', cfC, kC, iC, fC, q1.1, gC, stC, by rw [q2.1]; exact knV, by rw [q2.1]; exact obV, by rw [q2.2.1]; exact asC, q4⟩,
    ⟨V', ⟨q5.1, State.isArrayOf_alike al'.symm q5.2.1, q5.2.2.1⟩, q6, by rw [← al'.findClass]; exact q7, q8, fun j hj => by have := q9 j hj; rwa [Nat.zero_add] at this⟩, fun O n d w F n1 n2 => ?_⟩, hl, hc, hs⟩, st⟩
  · intro y hy
    simp only [List.mem_cons, List.not_mem_nil, or_false] at hy
    rcases hy with rfl | rfl <;> rfl
  · by_cases q : y = x
    · subst q
      cases hD.symm.trans hy
      exact ⟨E', q1.1, q2.2.1, q2.1, hsz⟩
    · exact ⟨cy, q10 y cy q hy, rfl, rfl, rfl⟩
  · obtain ⟨D3, cf, k, i, f, g1, g2, g3, g4, g5, g6, g7⟩ := F
    cases hD.symm.trans g1
    simp only [RoadKit.slotOf, g2, gV, gC, Option.map_some, Option.getD_some] at n1 n2
    exact ⟨E', cf, k, i, f, q1.1, g2, g3, by rw [q2.1]; exact g4, by rw [q2.1]; exact g5, by rw [q2.2.1]; exact g6, by rw [q2.2.2 f.slot (by simp [n1, n2])]; exact g7⟩
end StrChars.Road
namespace StrChars.Road
open Jvm Sem ClassFile Op Lib Jvm.Stand Jvm.Free Jvm.Free.XT
/-- WHAT COMES BACK, the byte[] as a list of values -/
def QA (Z : State) (x : Addr) (zn : Int32) (cs : List Int32) (h : Heap) (v : Option Value) (h' : Heap) (L : List Loc) : Prop := v = none ∧ (∀ y ∈ L, y.base = x) ∧ RoadKit.Keep h h' [x] ∧ h'.size = h.size + 1 ∧ RoadKit.Exa Z h' x ST ∧ RoadKit.Fld Z h' x ST "value" "[B" (.ref h.size) ∧ RoadKit.Fld Z h' x ST "coder" "B" (.int 0) ∧
  (∃ kb, Z.vm.findClass "[B" = some kb ∧ RoadKit.Arv Z h' h.size kb .byte zn (cs.map fun c => .int (lo8 c)) (.int 0)) ∧
  ∀ (O n d : String) (w : Value), RoadKit.Fld Z h x O n d w → RoadKit.slotOf Z O n d ≠ RoadKit.slotOf Z ST "value" "[B" → RoadKit.slotOf Z O n d ≠ RoadKit.slotOf Z ST "coder" "B" → RoadKit.Fld Z h' x O n d w
/-- **new String(chars) AT A CALL, THE ARRAYS AS LISTS**: the char[] at b holds cs, not empty, no char above 255 -/
theorem backArv {p : Program} {l : Launch} {e : Env} {R : Room} {s : State} {args : Array Value} {below : List Frame} {len W : Nat} {Z : State} {a0 : Array Value} {h : Heap} (hZ : Z.Warmed39 s.vm) (hw : ∀ d ∈ words, d.before a0 Z = true) {kI : Nat} (wi : (Jvm.Cond.instantiable ST kI).before a0 Z = true)
    {x b : Addr} {k : ClassId} {zn z : Int32} {cs : List Int32} {dv v0 c0 : Value} (E : RoadKit.Exa Z h x ST) (V : RoadKit.Fld Z h x ST "value" "[B" v0) (C : RoadKit.Fld Z h x ST "coder" "B" c0) (K : RoadKit.Arv Z h b k .char zn (cs.map Value.int) dv) (S : RoadKit.Sta Z h ST "COMPACT_STRINGS" "Z" (.int z)) (hz : ¬ z = 0)
    (hlen : zn.toNatClampNeg = cs.length) (h0 : 0 < cs.length) (hbig : cs.length ≤ 536870912) (hall : ∀ c ∈ cs, ¬ 255 < c) (hfr : 4 ≤ R.frames) (hlo : W + 65 ≤ R.locals) :
    Back l R p e below s args New1.yN len W (fun P a => a = #[.ref x, .ref b] ∧ P.U.heap = h ∧ P.cells + 1 ≤ R.cells ∧ P.slots + cs.length ≤ R.slots)
      (fun P _ v B => ∃ L, QA Z x zn cs h v B.U.heap L ∧ B.locs = P.locs ++ L ∧ B.cells = P.cells + 1 ∧ B.slots = P.slots + cs.length) := by
  obtain ⟨A, K1, K2, K3, K4, K5, K6⟩ := K
  have e : A.slots.size = cs.length := K3.trans hlen
  have hat : ∀ (i : Nat) (hi : i < cs.length), A.slots[i]? = some (.int cs[i]) := fun i hi => by rw [K5 i (by omega)]; simp [List.getD_eq_getElem?_getD, hi]
  have hcv : ∀ (i : Nat) (hi : i < cs.length), cv A i = cs[i] := fun i hi => by unfold cv; rw [hat i hi]
  have hty : Typed .char A := fun i v hv => by
    have hi : i < A.slots.size := (Array.getElem?_eq_some_iff.mp hv).1
    have q := K5 i hi
    rw [hv] at q
    rw [Option.some.inj q]
    exact K6 i hi
  refine Back.mono (back hZ hw wi E V C K1 hty S hz (by omega) (by omega) (fun i hi => by rw [hcv i (by omega)]; exact hall _ (List.getElem_mem _)) hfr hlo) (fun P a hp => ⟨hp.1, hp.2.1, hp.2.2.1, by rw [e]; exact hp.2.2.2⟩) (fun P a v B hp hq => ?_)
  obtain ⟨L, ⟨q1, q2, q3, q4, q5, q6, q7, ⟨V', v1, v2, v3, v4, v5⟩, q9⟩, hl, hc, hs⟩ := hq
  refine ⟨L, ⟨q1, q2, q3, q4, q5, q6, q7, ⟨V'.cls, v3, V', v1, rfl, by rw [v4, e, hlen], K4, fun i hi => ?_, fun i hi => ?_⟩, q9⟩, hl, hc, by rw [hs, e]⟩
  · have hi' : i < cs.length := by omega
    rw [v5 i (by omega), hcv i hi']; simp [List.getD_eq_getElem?_getD, hi']
  · have hi' : i < cs.length := by omega
    simp only [List.getD_eq_getElem?_getD, List.getElem?_map, List.getElem?_eq_getElem hi', Option.map_some, Option.getD_some]
    exact fits_lo8 _
end StrChars.Road
namespace StrChars.Road
open Jvm Sem ClassFile Op Lib Jvm.Stand Jvm.Free Jvm.Free.XT
/-- WHAT COMES BACK, in the writer's own shape -/
def QV (Z : State) (x : Addr) (N : Int32) (bs : List Int32) (h : Heap) (n0 : Nat) (v : Option Value) (h' : Heap) (L : List Loc) : Prop := v = none ∧ RoadKit.Fr n0 L ∧ RoadKit.Keep h h' [x] ∧ RoadKit.Exa Z h' x ST ∧ RoadKit.Fld Z h' x ST "coder" "B" (.int 0) ∧
  ∃ (t : Addr) (kb : ClassId), n0 ≤ t ∧ h.size ≤ t ∧ ¬ t = x ∧ RoadKit.Fld Z h' x ST "value" "[B" (.ref t) ∧ RoadKit.Arv Z h' t kb .byte N (bs.map Value.int) (.int 0)
/-- **new String(chars) AT A CALL, FOR THE WRITER**: a char[] of n known ints, each 0 to 255 -/
theorem backV {p : Program} {l : Launch} {e : Env} {R : Room} {s : State} {args : Array Value} {below : List Frame} {len W : Nat} {Z : State} {a0 : Array Value} {h : Heap} (hZ : Z.Warmed39 s.vm) (hw : ∀ d ∈ words, d.before a0 Z = true) {kI : Nat} (wi : (Jvm.Cond.instantiable ST kI).before a0 Z = true)
    {x b : Addr} {kC : ClassId} {cs bs : List Int32} {d v0 c0 : Value} {z N : Int32} {n n0 : Nat} (hx0 : n0 ≤ x) (hh0 : n0 ≤ h.size) (E : RoadKit.Exa Z h x ST) (V : RoadKit.Fld Z h x ST "value" "[B" v0) (C : RoadKit.Fld Z h x ST "coder" "B" c0) (K : RoadKit.Arv Z h b kC .char N (cs.map Value.int) d) (S : RoadKit.Sta Z h ST "COMPACT_STRINGS" "Z" (.int z)) (hz : ¬ z = 0)
    (hn : cs.length = n) (hN : N = Int32.ofNat n) (l0 : 0 < n) (l2 : n ≤ 4000) (hp : ∀ c ∈ cs, ¬ c < 0 ∧ ¬ (255 : Int32) < c) (hb : bs = cs.map (fun c => c.toInt8.toInt32)) (hfr : 4 ≤ R.frames) (hlo : W + 65 ≤ R.locals) :
    Back l R p e below s args (⟨"java/lang/String", "<init>", "([C)V"⟩ : MethodName) len W (fun P a => a = #[.ref x, .ref b] ∧ P.U.heap = h ∧ P.cells + 1 ≤ R.cells ∧ P.slots + n ≤ R.slots)
      (fun P _ v B => ∃ L, QV Z x N bs h n0 v B.U.heap L ∧ B.locs = P.locs ++ L ∧ B.cells = P.cells + 1 ∧ B.slots = P.slots + n) := by
  subst hn hN hb
  refine Back.mono (backArv hZ hw wi E V C K S hz (n32 (by omega)) l0 (by omega) (fun c hc => (hp c hc).2) hfr hlo) (fun P a hp => hp) (fun P a v B hp hq => ?_)
  obtain ⟨L, ⟨q1, q2, q3, q4, q5, q6, q7, ⟨kb, v1, v2⟩, q9⟩, hl, hc, hs⟩ := hq
  exact ⟨L, ⟨q1, fun y hy => by rw [q2 y hy]; exact hx0, q3, q5, q7, h.size, kb, hh0, Nat.le_refl _, Nat.ne_of_gt E.lt, q6, by rw [List.map_map]; exact v2⟩, hl, hc, hs⟩
end StrChars.Road
namespace StrChars
open Jvm Sem ClassFile Op Lib Jvm.Stand Jvm.Free.XT Jvm.Free.ALB Jvm.Free.JM Jvm.Free
open Jvm.Lib.Cold (StaticIs)
def hi8 (x : Int32) : Int32 := lo8 (x >>> ((8 : Int32) &&& 31))
theorem shr0 (c : Int32) : c >>> ((0 : Int32) &&& 31) = c := by
  have e : ((0 : Int32) &&& 31) = 0 := by decide
  rw [e]
  apply Int32.toBitVec_inj.mp
  rw [Int32.toBitVec_shiftRight]
  have e1 : ((0 : Int32).toBitVec.smod 32) = 0#32 := by decide
  rw [e1, BitVec.sshiftRight_eq']
  exact BitVec.sshiftRight_zero
end StrChars
namespace StrChars
open Jvm Sem ClassFile Op Lib Jvm.Stand Jvm.Free.XT Jvm.Free.ALB Jvm.Free.JM Jvm.Free
open Jvm.Lib.Cold (StaticIs)
theorem shr1 {n : Nat} (h : 2 * n < 2 ^ 31) : Int32.ofNat (2 * n) >>> ((1 : Int32) &&& 31) = Int32.ofNat n := by
  have e : ((1 : Int32) &&& 31) = 1 := by decide
  rw [e]
  apply Int32.toBitVec_inj.mp
  rw [Int32.toBitVec_shiftRight]
  have e1 : ((1 : Int32).toBitVec.smod 32) = 1#32 := by decide
  have hm : (BitVec.ofNat 32 (2 * n)).toNat = 2 * n := by rw [BitVec.toNat_ofNat, Nat.mod_eq_of_lt (by omega)]
  rw [e1, BitVec.sshiftRight_eq']
  apply BitVec.eq_of_toNat_eq
  show ((BitVec.ofNat 32 (2 * n)).sshiftRight 1).toNat = (BitVec.ofNat 32 n).toNat
  rw [BitVec.toNat_sshiftRight_of_msb_false (by rw [BitVec.msb_eq_false_iff_two_mul_lt, hm]; omega), hm, BitVec.toNat_ofNat, Nat.shiftRight_eq_div_pow]
  omega
/-- the array's cell V codes the n chars f 0 .. f (n - 1) by the coder cd, as the JDK does: coder 1 just where some char is above 255 -/
def Cod (cd : Int32) (n : Nat) (f : Nat → Int32) (V : Cell) : Prop := (cd = 0 ∧ V.slots.size = n ∧ ∀ j, j < n → V.slots[j]? = some (.int (lo8 (f j))) ∧ ¬ 255 < f j) ∨ (cd = 1 ∧ V.slots.size = 2 * n ∧ (∀ j, j < n → V.slots[2 * j]? = some (.int (lo8 (f j))) ∧ V.slots[2 * j + 1]? = some (.int (hi8 (f j)))) ∧ ∃ j, j < n ∧ 255 < f j)
theorem Cod.cd {cd : Int32} {n : Nat} {f : Nat → Int32} {V : Cell} (h : Cod cd n f V) : cd = 0 ∨ cd = 1 := h.imp (fun q => q.1) fun q => q.1
theorem Cod.len {cd : Int32} {n : Nat} {f : Nat → Int32} {V : Cell} (h : Cod cd n f V) (hs : V.slots.size < 2 ^ 31) : Int32.ofNat V.slots.size >>> (cd &&& 31) = Int32.ofNat n := by
  rcases h with ⟨rfl, h, -⟩ | ⟨rfl, h, -⟩
  · rw [shr0, h]
  · rw [h, shr1 (by omega)]
/-- **x is a String of the n chars f 0 .. f (n - 1)**, Latin-1 or UTF-16; its array at t has the cell V -/
def Txt (x t : Addr) (V : Cell) (cd : Int32) (n : Nat) (f : Nat → Int32) (U : State) : Prop := Exact "java/lang/String" x U ∧ Has x "java/lang/String" "value" "[B" (.ref t) U ∧ Has x "java/lang/String" "coder" "B" (.int cd) U ∧ XT.Arr .byte t V U ∧ Cod cd n f V ∧ ∀ j, j < n → ¬ f j < 0 ∧ ¬ 65535 < f j
theorem Txt.mv {x t : Addr} {V : Cell} {cd : Int32} {n : Nat} {f : Nat → Int32} {U U' : State} (h : Txt x t V cd n f U) (hal : U.vm.Alike U'.vm) (hh : U'.heap = U.heap) : Txt x t V cd n f U' := ⟨h.1.mv hal hh, h.2.1.mv hal hh, h.2.2.1.mv hal hh, h.2.2.2.1.mv hal hh, h.2.2.2.2⟩
namespace Cdr
def yN : MethodName := ⟨"java/lang/String", "coder", "()B"⟩
abbrev yB : ByteArray := jdk_42_method_152_code
theorem d0 : decode yB 0 = .ok (.getstatic 38, 3) := by decide +kernel
theorem d3 : decode yB 3 = .ok (.ifCond (.eq) 10, 3) := by decide +kernel
theorem d6 : decode yB 6 = .ok (.aload_n 0, 1) := by decide +kernel
theorem d7 : decode yB 7 = .ok (.getfield 15, 3) := by decide +kernel
theorem d10 : decode yB 10 = .ok (.goto 4, 3) := by decide +kernel
theorem d14 : decode yB 14 = .ok (.ireturn, 1) := by decide +kernel
def site : List Cond := [.fieldLink "java/lang/String" 38 "java/lang/String" "COMPACT_STRINGS" "Z", .fieldLink "java/lang/String" 15 "java/lang/String" "coder" "B"]
def tab : Cond := tabOf yN yB 1 (some .byte) site
def P (x : Addr) (cd z : Int32) (args : Array Value) (s : State) : Prop := args = #[.ref x] ∧ Has x "java/lang/String" "coder" "B" (.int cd) s ∧ (cd = 0 ∨ cd = 1) ∧ StaticIs s "java/lang/String" "COMPACT_STRINGS" "Z" (.int z) ∧ ¬ z = 0
def E (cd : Int32) (r : Option Value) (s u : State) : Prop := XT.PureE (some (.int cd)) r s u
theorem law (l : Launch) (x : Addr) (cd z : Int32) : Law l yN 1 0 0 0 yB 1 (some .byte) site (P x cd z) (E cd) [] 0 0 := by
  refine Law.of_walk (plainFor_of_name (by decide +kernel)) (by decide +kernel) (by decide +kernel) (by decide) (fun _ _ h => by rw [h.1]; rfl) (fun _ U U' hal hh h => ⟨h.1, h.2.1.mv hal hh, h.2.2.1, h.2.2.2.1.there hal hh, h.2.2.2.2⟩) (fun r U U' V V' h1 hal h2 h => XT.PureE.mv r U U' V V' h1 hal h2 h) ?_
  intro p e s m args below meth c s₁ X0 hexec hbytes hml hret hlk hnm hown hh0 W hP
  obtain ⟨rfl, hx, hc, s1, hz⟩ := hP
  have c1 : Steps p.tables e below (s₁.setTop (entryFrame m #[.ref x] 1)) (s₁.setTop (mkF m 0 #[.val (.ref x)] [])) := entry rfl
  obtain ⟨T2, X2, q2, st2⟩ := X0.sget hexec hown (wk W (.fieldLink "java/lang/String" 38 "java/lang/String" "COMPACT_STRINGS" "Z")) s1 (fun _ _ h => by rw [hh0]; exact h) (g := (mkF m 0 #[.val (.ref x)] [])) rfl (hb hbytes d0)
  have hh2 := q2.trans hh0
  have c3 : Steps p.tables e below (s₁.setTop (entryFrame m #[.ref x] 1)) (T2.setTop (mkF m 7 #[.val (.ref x)] [.ref x])) := (c1.trans (st2 _ (Steps.refl _))).trans (by
    refine XS.ifNo X2.here hexec rfl (hb hbytes d3) rfl (i0_eq_f hz) ?_
    refine XS.aloadN X2.here hexec rfl (hb hbytes d6) rfl rfl ?_
    exact Steps.refl _)
  obtain ⟨T4, X4, q4, st4⟩ := X2.hget hexec hown (wk W (.fieldLink "java/lang/String" 15 "java/lang/String" "coder" "B")) (hx.mv X2.warmed.alike hh2) (g := (mkF m 7 #[.val (.ref x)] [.ref x])) rfl (rest := []) rfl (hb hbytes d7)
  have c5 : Steps p.tables e below (s₁.setTop (entryFrame m #[.ref x] 1)) (T4.setTop (mkF m 14 #[.val (.ref x)] [.int cd])) := (c3.trans (st4 _ (Steps.refl _))).trans (by
    refine XS.goto X4.here hexec rfl (pc0 := 10) rfl (hb hbytes d10) (by decide) rfl ?_
    exact Steps.refl _)
  exact ⟨T4, some (.int cd), _, _, _, X4, rfl, rfl, rfl, (fun h => by cases h), ⟨rfl, q4.trans hh2⟩, fun fs hl => c5.trans (X4.ireturnOut hexec hret (by rcases hc with rfl | rfl <;> rfl) (Or.inr (Or.inr (Or.inl rfl))) (hb hbytes d14) hl)⟩
end Cdr
namespace Len
def yN : MethodName := ⟨"java/lang/String", "length", "()I"⟩
abbrev yB : ByteArray := jdk_42_method_54_code
theorem d0 : decode yB 0 = .ok (.aload_n 0, 1) := by decide +kernel
theorem d1 : decode yB 1 = .ok (.getfield 9, 3) := by decide +kernel
theorem d4 : decode yB 4 = .ok (.arraylength, 1) := by decide +kernel
theorem d5 : decode yB 5 = .ok (.aload_n 0, 1) := by decide +kernel
theorem d6 : decode yB 6 = .ok (.invokevirtual 335, 3) := by decide +kernel
theorem d9 : decode yB 9 = .ok (.ishr, 1) := by decide +kernel
theorem d10 : decode yB 10 = .ok (.ireturn, 1) := by decide +kernel
def site : List Cond := [.fieldLink "java/lang/String" 9 "java/lang/String" "value" "[B", Cdr.tab] ++ virtW "java/lang/String" 335 "java/lang/String" Cdr.yN Cdr.yN
def tab : Cond := tabOf yN yB 1 (some .int) site
def P (x t : Addr) (V : Cell) (cd : Int32) (n : Nat) (f : Nat → Int32) (z : Int32) (args : Array Value) (s : State) : Prop := args = #[.ref x] ∧ Txt x t V cd n f s ∧ StaticIs s "java/lang/String" "COMPACT_STRINGS" "Z" (.int z) ∧ ¬ z = 0
def E (n : Nat) (r : Option Value) (s u : State) : Prop := XT.PureE (some (.int (Int32.ofNat n))) r s u
/-- length() of a String of n chars, in either coding -/
theorem law (l : Launch) (x t : Addr) (V : Cell) (cd : Int32) (n : Nat) (f : Nat → Int32) (z : Int32) : Law l yN 1 0 1 13 yB 1 (some .int) site (P x t V cd n f z) (E n) [] 0 0 := by
  refine Law.of_walk (plainFor_of_name (by decide +kernel)) (by decide +kernel) (by decide +kernel) (by decide) (fun _ _ h => by rw [h.1]; rfl) (fun _ U U' hal hh h => ⟨h.1, h.2.1.mv hal hh, h.2.2.1.there hal hh, h.2.2.2⟩) (fun r U U' V V' h1 hal h2 h => XT.PureE.mv r U U' V V' h1 hal h2 h) ?_
  intro p e s m args below meth c s₁ X0 hexec hbytes hml hret hlk hnm hown hh0 W hP
  obtain ⟨rfl, hx, s1, hz⟩ := hP
  have v31 := hx.2.2.2.1.2.2.2
  have c1 : Steps p.tables e below (s₁.setTop (entryFrame m #[.ref x] 1)) (s₁.setTop (mkF m 1 #[.val (.ref x)] [.ref x])) := Steps.trans (entry rfl) (by
    show Steps p.tables e below (s₁.setTop (mkF m 0 #[.val (.ref x)] [])) _
    refine XS.aloadN X0.here hexec rfl (hb hbytes d0) rfl rfl ?_
    exact Steps.refl _)
  obtain ⟨T2, X2, q2, st2⟩ := X0.hget hexec hown (wk W (.fieldLink "java/lang/String" 9 "java/lang/String" "value" "[B")) (hx.mv X0.warmed.alike hh0).2.1 (g := (mkF m 1 #[.val (.ref x)] [.ref x])) rfl (rest := []) rfl (hb hbytes d1)
  have hh2 := q2.trans hh0
  have hx2 := hx.mv X2.warmed.alike hh2
  have c3 : Steps p.tables e below (s₁.setTop (entryFrame m #[.ref x] 1)) (T2.setTop (mkF m 6 #[.val (.ref x)] [.ref x, .int (Int32.ofNat V.slots.size)])) := (c1.trans (st2 _ (Steps.refl _))).trans (by
    refine X2.alen hexec hx2.2.2.2.1 rfl rfl (hb hbytes d4) ?_
    refine XS.aloadN X2.here hexec rfl (hb hbytes d5) rfl rfl ?_
    exact Steps.refl _)
  obtain ⟨v4, T4, X4, E4, g4⟩ := X2.callV hexec (Cdr.law l x cd z) hown (wks W (virtW "java/lang/String" 335 "java/lang/String" Cdr.yN Cdr.yN)) rfl (by decide) (wk W Cdr.tab) (W := 1) (Nat.le_of_ble_eq_true rfl) (Nat.le_of_ble_eq_true rfl) (Nat.le_refl _) (Nat.le_refl _) (hx2.1.fc X2.warmed.alike) hx2.1.is (g := (mkF m 6 #[.val (.ref x)] [.ref x, .int (Int32.ofNat V.slots.size)])) rfl (by rw [hml]; rfl) c3 (argsL := []) (rest := [.int (Int32.ofNat V.slots.size)]) rfl rfl (by show 2 * 0 + (1 + 0) ≤ _; decide) (hb hbytes d6) (⟨rfl, hx2.2.2.1, hx.2.2.2.2.1.cd, s1.there X2.warmed.alike hh2, hz⟩)
  obtain ⟨rfl, q4⟩ := E4
  have c5 : Steps p.tables e below (s₁.setTop (entryFrame m #[.ref x] 1)) (T4.setTop (mkF m 10 #[.val (.ref x)] [.int (Int32.ofNat V.slots.size >>> (cd &&& 31))])) := Steps.trans g4 (by
    refine ishr X4.here hexec rfl (hb hbytes d9) rfl ?_
    exact Steps.refl _)
  rw [hx.2.2.2.2.1.len v31] at c5
  exact ⟨T4, some (.int (Int32.ofNat n)), _, _, _, X4, rfl, rfl, rfl, (fun h => by cases h), ⟨rfl, q4.trans hh2⟩, fun fs hl => c5.trans (X4.ireturnOut hexec hret rfl (Or.inl rfl) (hb hbytes d10) hl)⟩
theorem pays {l : Launch} {R : Room} {p : Program} {e : Env} {below : List Frame} {s : State} {sargs : Array Value} {len W : Nat} (x t : Addr) (V : Cell) (cd : Int32) (n : Nat) (f : Nat → Int32) (z : Int32) (htab : tab.before sargs s = true) (hfr : 2 ≤ R.frames) (hlo : W + 25 ≤ R.locals) :
    Back l R p e below s sargs yN len W (fun A₁ a₁ => A₁.cells + 0 ≤ R.cells ∧ A₁.slots + 0 ≤ R.slots ∧ P x t V cd n f z a₁ A₁.U) (fun A₁ _ v₁ B₁ => E n v₁ A₁.U B₁.U ∧ B₁.locs = A₁.locs ++ [] ∧ B₁.cells = A₁.cells + 0 ∧ B₁.slots = A₁.slots + 0) :=
  (law l x t V cd n f z).pays htab hfr (by omega)
end Len
end StrChars
namespace StrChars.Road
open Jvm Sem ClassFile Op Lib Jvm.Stand Jvm.Free Jvm.Free.XT
open Jvm.Lib.Cold (StaticIs)
theorem consq {a : Array Value} {s : State} {c : Jvm.Cond} {L : List Jvm.Cond} (h0 : c.before a s = true) (h : ∀ w ∈ L, w.before a s = true) : ∀ w ∈ c :: L, w.before a s = true := fun w hw => (List.mem_cons.mp hw).elim (fun e => e ▸ h0) (h w)
/-- the words of String.length(), either coding -/
abbrev wordsLen : List Jvm.Cond := [.code Len.yN Len.yB 1 (some .int), .initialized ST, .fieldLink ST 9 ST "value" "[B", .fieldLink ST 38 ST "COMPACT_STRINGS" "Z", .fieldLink ST 15 ST "coder" "B", .code Cdr.yN Cdr.yB 1 (some .byte), .methodLink ST 335 Cdr.yN, .declares Cdr.yN, .selects ST Cdr.yN Cdr.yN, .instanceMethod Cdr.yN]
theorem tabLen_of {a : Array Value} {s : State} (h : ∀ w ∈ wordsLen, w.before a s = true) : Len.tab.before a s = true := by
  have hc : Cdr.tab.before a s = true := unparts (wk h (.code Cdr.yN Cdr.yB 1 (some .byte))) (wks h (.initialized Cdr.yN.cls :: Cdr.site))
  have q := consq hc h
  exact unparts (wk q (.code Len.yN Len.yB 1 (some .int))) (wks q (.initialized Len.yN.cls :: Len.site))
theorem movedLen {Z s : State} {a0 args : Array Value} (hZ : Z.Warmed39 s.vm) (hw : ∀ d ∈ wordsLen, d.before a0 Z = true) : ∀ d ∈ wordsLen, d.before args s = true := fun d hd => by
  have q := hw d hd
  have t : ∀ d ∈ wordsLen, d = .arrayClass .byte ∨ (d.onTables && d.keepsFace) = true := by decide +kernel
  rcases t d hd with rfl | t
  · exact RoadKit.mvA hZ q
  · exact RoadKit.mv hZ q t
/-- the bytes of the chars cs, low before high -/
def wideBytes : List Int32 → List Value
  | [] => []
  | c :: cs => .int (lo8 c) :: .int (hi8 c) :: wideBytes cs
theorem wide_lo (d : Value) : ∀ (cs : List Int32) (j : Nat), j < cs.length → (wideBytes cs).getD (2 * j) d = .int (lo8 (cs.getD j 0))
  | [], j, h => absurd h (Nat.not_lt_zero j)
  | c :: cs, 0, _ => rfl
  | c :: cs, j + 1, h => by
    have q := wide_lo d cs j (by simpa using h)
    rw [show 2 * (j + 1) = 2 * j + 1 + 1 from by omega]
    simpa [wideBytes] using q
theorem wide_hi (d : Value) : ∀ (cs : List Int32) (j : Nat), j < cs.length → (wideBytes cs).getD (2 * j + 1) d = .int (hi8 (cs.getD j 0))
  | [], j, h => absurd h (Nat.not_lt_zero j)
  | c :: cs, 0, _ => rfl
  | c :: cs, j + 1, h => by
    have q := wide_hi d cs j (by simpa using h)
    rw [show 2 * (j + 1) + 1 = 2 * j + 1 + 1 + 1 from by omega]
    simpa [wideBytes] using q
theorem low_at (d : Value) (cs : List Int32) (j : Nat) (h : j < cs.length) : (cs.map fun c => Value.int (lo8 c)).getD j d = .int (lo8 (cs.getD j 0)) := by
  simp [List.getD_eq_getElem?_getD, h]
/-- an array of N2 bytes vs codes the chars cs by the coder cd -/
def CodA (cs : List Int32) (cd N2 : Int32) (vs : List Value) : Prop := (cd = 0 ∧ N2 = Int32.ofNat cs.length ∧ vs = (cs.map fun c => Value.int (lo8 c)) ∧ ∀ c ∈ cs, ¬ 255 < c) ∨ (cd = 1 ∧ N2 = Int32.ofNat (2 * cs.length) ∧ vs = wideBytes cs ∧ ∃ c ∈ cs, 255 < c)
theorem CodA.cod {cs : List Int32} {cd N2 : Int32} {vs : List Value} {V : Cell} (h : CodA cs cd N2 vs) (hn : 2 * cs.length < 2 ^ 31) (hs : V.slots.size = N2.toNatClampNeg) (hv : RoadKit.Has V vs (.int 0)) : Cod cd cs.length (fun j => cs.getD j 0) V := by
  rcases h with ⟨rfl, rfl, rfl, h⟩ | ⟨rfl, rfl, rfl, c, hc, hw⟩
  · rw [n32 (by omega)] at hs
    exact Or.inl ⟨rfl, hs, fun j hj => ⟨by rw [hv j (by omega), low_at _ _ _ hj], by
      have e : cs.getD j 0 = cs[j] := by simp [List.getD_eq_getElem?_getD, hj]
      show ¬ 255 < cs.getD j 0
      rw [e]; exact h _ (List.getElem_mem _)⟩⟩
  · rw [n32 (by omega)] at hs
    obtain ⟨j, hj, rfl⟩ := List.getElem_of_mem hc
    exact Or.inr ⟨rfl, hs, fun j hj => ⟨by rw [hv _ (by omega), wide_lo _ _ _ hj], by rw [hv _ (by omega), wide_hi _ _ _ hj]⟩, j, hj, by
      have e : cs.getD j 0 = cs[j] := by simp [List.getD_eq_getElem?_getD, hj]
      show 255 < cs.getD j 0
      rw [e]; exact hw⟩
/-- an object of exactly java/lang/String, its two fields found: as the laws ask it -/
theorem strObj {Z U : State} {a0 : Array Value} {kI : Nat} (wi : (Jvm.Cond.instantiable ST kI).before a0 Z = true) (al : Z.vm.Alike U.vm) {x : Addr} {v0 c0 : Value} (E : RoadKit.Exa Z U.heap x ST) (V : RoadKit.Fld Z U.heap x ST "value" "[B" v0) (C : RoadKit.Fld Z U.heap x ST "coder" "B" c0) :
    ∃ (D : Cell) (fV fC : Field), Blank ST x D U ∧ Found ST "value" "[B" fV U ∧ Found ST "coder" "B" fC U ∧ D.slots[fV.slot]? = some v0 ∧ D.slots[fC.slot]? = some c0 ∧ RoadKit.slotOf Z ST "value" "[B" = fV.slot ∧ RoadKit.slotOf Z ST "coder" "B" = fC.slot := by
  obtain ⟨D, cfV, kV, iV, fV, hD, gV, stV, knV, obV, asV, slV⟩ := V
  obtain ⟨D', cfC, kC, iC, fC, hD', gC, stC, -, -, asC, slC⟩ := C
  cases hD.symm.trans hD'
  obtain ⟨D2, kD, e1, e2, e3, e4, e5⟩ := E
  cases hD.symm.trans e1
  obtain ⟨c2, k2, i1, i2, i3, -⟩ := Cond.instantiable_spec wi
  cases e2.symm.trans i1
  cases e3.symm.trans i2
  obtain ⟨kU, u1, u2⟩ := al.2.2 _ _ e3
  exact ⟨D, fV, fC, ⟨hD, ⟨knV, fun q hq => by rw [hq] at obV; cases obV⟩, by rw [al.findClass]; exact e2, kU, u1, by rw [u2]; exact i3, by rw [u2]; exact e5 i3⟩, ⟨SBG.found_only al ⟨cfV, kV, iV, gV⟩, stV⟩, ⟨SBG.found_only al ⟨cfC, kC, iC, gC⟩, stC⟩, slV, slC, by simp [RoadKit.slotOf, gV], by simp [RoadKit.slotOf, gC]⟩
theorem sta_is {Z U : State} (al : Z.vm.Alike U.vm) {C n d : String} {v : Value} (S : RoadKit.Sta Z U.heap C n d v) : StaticIs U C n d v := by
  obtain ⟨cfS, iS, kS, fS, st, cS, t1, t2, t3, t4, t5, t6, t7⟩ := S
  exact StaticIs.there (s := { Z with heap := U.heap }) ⟨cfS, iS, kS, fS, st, cS, t1, t2, t3, t4, t5, (fun q => by rw [q] at t6; cases t6), t7⟩ al rfl
/-- **length() OF SUCH A STRING** -/
theorem lenW {p : Program} {l : Launch} {e : Env} {R : Room} {s : State} {args : Array Value} {below : List Frame} {len W : Nat} {Z : State} {a0 : Array Value} {h : Heap} (hZ : Z.Warmed39 s.vm) (hw : ∀ d ∈ wordsLen, d.before a0 Z = true) {kI : Nat} (wi : (Jvm.Cond.instantiable ST kI).before a0 Z = true)
    {x t : Addr} {kb : ClassId} {cs : List Int32} {cd N2 z : Int32} {vs : List Value} (E : RoadKit.Exa Z h x ST) (V : RoadKit.Fld Z h x ST "value" "[B" (.ref t)) (C : RoadKit.Fld Z h x ST "coder" "B" (.int cd)) (K : RoadKit.Arv Z h t kb .byte N2 vs (.int 0)) (hc : CodA cs cd N2 vs) (hb : ∀ c ∈ cs, ¬ c < 0 ∧ ¬ (65535 : Int32) < c)
    (S : RoadKit.Sta Z h ST "COMPACT_STRINGS" "Z" (.int z)) (hz : ¬ z = 0) (l2 : cs.length ≤ 4000) (hfr : 2 ≤ R.frames) (hlo : W + 25 ≤ R.locals) :
    Back l R p e below s args (⟨"java/lang/String", "length", "()I"⟩ : MethodName) len W (fun P a => a = #[.ref x] ∧ P.U.heap = h ∧ P.cells + 0 ≤ R.cells ∧ P.slots + 0 ≤ R.slots)
      (fun P _ v B => ∃ L, (v = some (.int (Int32.ofNat cs.length)) ∧ L = [] ∧ B.U.heap = h) ∧ B.locs = P.locs ++ L ∧ B.cells = P.cells + 0 ∧ B.slots = P.slots + 0) := by
  obtain ⟨A, K1, K2, K3, K4, K5, K6⟩ := K
  have hcod := hc.cod (by omega) K3 K5
  intro m meth c P g ig mk a X hg hsize hdg hW hn hp'
  obtain ⟨rfl, rfl, r1, r2⟩ := hp'
  have al : Z.vm.Alike P.U.vm := hZ.alike.trans X.warmed.alike
  obtain ⟨D, fV, fC, hB, F1, F2, g1, g2, -, -⟩ := strObj wi al E V C
  have hx : Txt x t A cd cs.length (fun j => cs.getD j 0) P.U := ⟨⟨_, hB.2.2.1, D, hB.1, rfl, by cases q : D.vm <;> first | rfl | exact absurd q (hB.2.1.2 _)⟩, Has.of hB F1 g1, Has.of hB F2 g2, ⟨K1.1, State.isArrayOf_alike al K1.2.1, K1.2.2, by rcases hcod with ⟨-, q, -⟩ | ⟨-, q, -⟩ <;> omega⟩, hcod, fun j hj => by
    have e : cs.getD j 0 = cs[j] := by simp [List.getD_eq_getElem?_getD, hj]
    show ¬ cs.getD j 0 < 0 ∧ ¬ 65535 < cs.getD j 0
    rw [e]; exact hb _ (List.getElem_mem _)⟩
  obtain ⟨v, B, X', ⟨⟨hv, hh⟩, hl, hk, hs⟩, st⟩ := Len.pays x t A cd cs.length (fun j => cs.getD j 0) z (tabLen_of (movedLen hZ hw)) hfr hlo m meth c P g ig mk _ X hg hsize hdg hW hn ⟨r1, r2, rfl, hx, sta_is al S, hz⟩
  exact ⟨v, B, X', ⟨[], ⟨hv, rfl, hh⟩, hl, hk, hs⟩, st⟩
end StrChars.Road
namespace StrChars.Road
open Jvm Sem ClassFile Op Lib Jvm.Stand Jvm.Free Jvm.Free.XT
open Jvm.Lib.Cold (StaticIs)
/-- what backV says of its String, as the contracts of this text ask it: cs's low bytes, coder 0 -/
theorem codOf {cs : List Int32} {n : Nat} (hn : cs.length = n) (hb : ∀ c ∈ cs, ¬ 255 < c) : CodA cs 0 (Int32.ofNat n) ((cs.map lo8).map Value.int) := Or.inl ⟨rfl, by rw [hn], by simp [List.map_map, Function.comp_def], hb⟩
end StrChars.Road
end Jvm.Pilot.@@N@@

namespace Jvm.Pilot.@@N@@.Own
open Jvm Jvm.ClassFile Sem Op Lib Jvm.Free Jvm.Stand Jvm.LawKit Jvm.RoadKit
abbrev ST : String := "java/lang/String"
abbrev Nar (_s : State) (_vm : Vm) : Prop := True
/-- where a walk stands -/
def Sit (p : Program) (l : Launch) (e : Env) (R : Room) (s : State) (m : MethodId) (args : Array Value) (below : List Frame) (meth : Method) (c : Code) (Z : State) (EL : List (String × Nat)) (own : String) (vm : Vm) (T : State) (h : Heap) (k n : Nat) : Prop :=
  ∃ locs : List Loc, Stand p l e R (s.setVm vm) m args below meth c T locs k n ∧ T.heap = h ∧ Z.Warmed39 vm ∧ vm.findClass own = some m.cls ∧ (∃ j, s.Since vm j ∧ j ≤ h.size) ∧ CHr Z EL s.vm s.heap vm h ∧ Fr Z.heap.size locs ∧ Ext Z.heap s.heap ∧ Nar s vm
/-- one step of the heap and the tables: what was kept, what may be booked -/
def Stp (Z : State) (EL : List (String × Nat)) (vm : Vm) (h : Heap) (vm' : Vm) (h' : Heap) (ws : List Addr) : Prop := Keep h h' ws ∧ CHr Z EL vm h vm' h'
def Cl (p : Program) (e : Env) (below : List Frame) (G : State → JFrame → Prop) : Prop := ∀ (T T' : State) (g g' : JFrame), (∀ t, Steps p.tables e below (T'.setTop g') t → Steps p.tables e below (T.setTop g) t) → G T' g' → G T g
def Rt (p : Program) (l : Launch) (e : Env) (R : Room) (s : State) (m : MethodId) (args : Array Value) (below : List Frame) (meth : Method) (c : Code) (Z : State) (EL : List (String × Nat)) (own : String) (Q : Option Value → Heap → Prop) (G : State → JFrame → Prop) : Prop :=
  ∀ (vm : Vm) (T : State) (h : Heap) (k n : Nat) (v : Option Value) (g : JFrame), Sit p l e R s m args below meth c Z EL own vm T h k n → k ≤ R.cells → n ≤ R.slots → (meth.sig.returnType = none → v = none) → Q v h →
    (∀ fs, (∀ (f : JFrame) (acts : List Action), f.method = m → f.locked = none → f.entered = [] → (doReturn e (T.setTop f) acts v).1 = T.setFrames fs) → Steps p.tables e below (T.setTop g) (T.setFrames fs)) → G T g
def Con (l : Launch) (Z : State) (EL : List (String × Nat)) (y : MethodName) (bytes : ByteArray) (maxL : Nat) (ret : Option FieldType) (ws : List Jvm.Cond) (rm : Room) (as : Array Value) (h : Heap) (Q : Option Value → Heap → Prop) : Prop :=
  MetFree l y (head1 (Jvm.Cond.code y bytes maxL ret :: ws) rm) (fun a U => a = as ∧ Z.Warmed39 U.vm ∧ U.heap = h ∧ CHv Z EL U.vm h) (fun _ _ _ _ _ => True) (fun _ U o U' => ∃ v L, o = .returned v ∧ (Q v U'.heap ∧ Fr Z.heap.size L) ∧ CHr Z EL U.vm U.heap U'.vm U'.heap ∧ ReturnedEndW U o U' L rm.cells rm.slots)
section L
variable {p : Program} {l : Launch} {e : Env} {R : Room} {s : State} {m : MethodId} {args : Array Value} {below : List Frame} {meth : Method} {c : Code} {Z : State} {EL : List (String × Nat)} {own : String} {a0 : Array Value} {vm vm' vm'' : Vm} {T T' : State} {h h' h'' : Heap} {k n : Nat} {G : State → JFrame → Prop} {ws ws' us : List Addr} {x a b t : Addr}
theorem irem {tb : Tables} [Ours tb] {target : State} {g : JFrame} (h : At T m c below) (hx : tb.exec = Jvm.exec) (hg : g.method = m) {x y : Int32} {rest : List Value} (hd : decode c.code g.pc = .ok (.irem, 1)) (hs : g.stack = .int y :: .int x :: rest) (hy : y ≠ 0) (hr : Steps tb e below (T.setTop { g with pc := g.pc + 1, stack := .int (x % y) :: rest }) target) : Steps tb e below (T.setTop g) target := by
  have q : x - x / y * y = x % y := irem_eq_mod x y
  exact XS.irem h hx hg hd hs hy (by rw [q]; exact hr)
theorem hw0 {g : JFrame} {rest : List Value} {W : Nat} (h0 : g.monitorRoom = 0) (h : (rest.map fun v => v.category).sum = W) : 2 * g.monitorRoom + (rest.map fun v => v.category).sum ≤ W := by rw [h0, h]; omega
theorem Cl.st (hG : Cl p e below G) {T T' : State} {g g' : JFrame} (f : ∀ t, Steps p.tables e below (T'.setTop g') t → Steps p.tables e below (T.setTop g) t) (q : G T' g') : G T g := hG T T' g g' f q
theorem old_ext {locs : List Loc} (X : Stand p l e R (s.setVm vm) m args below meth c T locs k n) (N : Fr Z.heap.size locs) (O : Ext Z.heap s.heap) : Ext Z.heap T.heap := by
  have hs := X.same
  refine ⟨Nat.le_trans O.1 hs.2.1, fun b cl hcl => ?_⟩
  obtain ⟨c', h1, h2, -, h4⟩ := hs.2.2.2.2.2 b cl (O.2 b cl hcl)
  have hb := (Array.getElem?_eq_some_iff.mp hcl).1
  have hsl : c'.slots = cl.slots := Array.ext_getElem? fun i => h4 i fun hm => absurd (N _ hm) (Nat.not_le.mpr hb)
  have hcc : c' = cl := by rw [h2, hsl]
  rw [← hcc]; exact h1
theorem Sit.here (S : Sit p l e R s m args below meth c Z EL own vm T h k n) : At T m c below := by
  obtain ⟨_, X, -⟩ := S; exact X.here
theorem Sit.warm (S : Sit p l e R s m args below meth c Z EL own vm T h k n) : Z.Warmed39 vm := by
  obtain ⟨_, -, -, q, -⟩ := S; exact q
theorem Sit.ch (S : Sit p l e R s m args below meth c Z EL own vm T h k n) : CHv Z EL vm h := by
  obtain ⟨_, -, -, -, -, -, q, -⟩ := S; exact q.1
theorem Sit.old (S : Sit p l e R s m args below meth c Z EL own vm T h k n) : Ext Z.heap h := by
  obtain ⟨_, X, rfl, -, -, -, -, N, O, -⟩ := S; exact old_ext X N O
theorem Sit.le (S : Sit p l e R s m args below meth c Z EL own vm T h k n) : Z.heap.size ≤ h.size := S.old.1
theorem Sit.mono (S : Sit p l e R s m args below meth c Z EL own vm T h k n) {k' n' : Nat} (hk : k ≤ k') (hn : n ≤ n') : Sit p l e R s m args below meth c Z EL own vm T h k' n' := by
  obtain ⟨locs, X, r⟩ := S
  exact ⟨locs, { X with same := X.same.mono hk hn }, r⟩
theorem Stp.refl (H : CHv Z EL vm h) : Stp Z EL vm h vm h [] := ⟨Keep.refl _ _, CHr.refl H⟩
theorem Stp.trans (A : Stp Z EL vm h vm' h' ws) (B : Stp Z EL vm' h' vm'' h'' ws') (q : ∀ x ∈ ws, x ∈ us) (q' : ∀ x ∈ ws', x ∈ us ∨ h.size ≤ x) : Stp Z EL vm h vm'' h'' us :=
  ⟨Keep.trans ⟨A.1.1, fun x c r z => A.1.2.1 x c r fun y => z (q x y), A.1.2.2⟩ B.1 q', A.2.trans B.2⟩
theorem Stp.mono (A : Stp Z EL vm h vm' h' ws) (q : ∀ x ∈ ws, x ∈ us) : Stp Z EL vm h vm' h' us := ⟨⟨A.1.1, fun x c r z => A.1.2.1 x c r fun y => z (q x y), A.1.2.2⟩, A.2⟩
theorem Stp.of_ext (E : Ext h h') (H : CHv Z EL vm h) : Stp Z EL vm h vm h' [] := ⟨(Keep.refl _ _).ext E, CHr.ext E H⟩
theorem Stp.of_wr {sl : Nat} {v : Value} (W : Wr h h' a sl v) (S : Safe Z EL vm h a) (H : CHv Z EL vm h) : Stp Z EL vm h vm h' [a] := ⟨Keep.of_wr W, CHr.wr W S H⟩
theorem Stp.of_keep (K : Keep h h' ws) (S : ∀ x ∈ ws, Safe Z EL vm h x) (H : CHv Z EL vm h) : Stp Z EL vm h vm h' ws := ⟨K, CHr.keep K S H⟩
theorem Stp.safe (A : Stp Z EL vm h vm' h' ws) (hx : x < h.size) (S : Safe Z EL vm h x) : Safe Z EL vm' h' x := A.2.safe hx S
theorem Stp.fld (A : Stp Z EL vm h vm' h' ws) {C f d : String} {v : Value} (F : Fld Z h a C f d v) (q : a ∉ ws) : Fld Z h' a C f d v := F.keep A.1 q
theorem Stp.exa (A : Stp Z EL vm h vm' h' ws) {C : String} (F : Exa Z h a C) : Exa Z h' a C := F.keep A.1
theorem Stp.arv (A : Stp Z EL vm h vm' h' ws) {kc : ClassId} {ty : FieldType} {z : Int32} {vs : List Value} {d : Value} (F : Arv Z h a kc ty z vs d) (q : a ∉ ws) : Arv Z h' a kc ty z vs d := F.keep A.1 q
theorem keep_mono (K : Keep h h' ws) (q : ∀ x ∈ ws, x ∈ us) : Keep h h' us := ⟨K.1, fun x c r z => K.2.1 x c r fun y => z (q x y), K.2.2⟩
theorem and255 (x : Int32) : ¬ nar .char ((x &&& (255 : Int32)).toUInt32.toUInt16.toUInt32.toInt32) < 0 ∧ ¬ (255 : Int32) < nar .char ((x &&& (255 : Int32)).toUInt32.toUInt16.toUInt32.toInt32) := by
  have e : nar .char ((x &&& (255 : Int32)).toUInt32.toUInt16.toUInt32.toInt32) = x &&& 255 := by
    rw [i2c_mask]; exact i2c_mask x
  rw [e]
  have h := c_and x 255 (by decide)
  have e1 : (255 : Int32).toInt = 255 := rfl
  have e0 : (0 : Int32).toInt = 0 := rfl
  exact ⟨fun q => by rw [Int32.lt_iff_toInt_lt, e0] at q; omega, fun q => by rw [Int32.lt_iff_toInt_lt, e1] at q; omega⟩
/-- a String whose value is still null isn't booked -/
theorem Safe.blank {n : Nat} (hal : Z.vm.Alike vm) (E : Exa Z h x ST) (F : Fld Z h x ST "value" "[B" .null) (wi : (Jvm.Cond.instantiable ST n).before a0 Z = true) : Safe Z EL vm h x := fun B => by
  obtain ⟨p, hp, u, a, hb, q, hqa, hS, hy⟩ := B
  obtain ⟨cS, ⟨⟨s1, s2, s3, ⟨cv, kv, iv, s4, s4'⟩, ⟨cc, kc, ic, s5, s5'⟩, s6, s7, s8, s9, s10, s11, s12, s13, s14, s15, s16⟩, hfS, hcS⟩, ⟨kS, k1, k2, k3⟩, hB, hbyt⟩ := hS
  rcases hy with rfl | rfl
  · obtain ⟨cell, cf, kf, i, f, f1, f2, f3, f4, f5, f6, f7⟩ := F
    obtain ⟨kz, z4⟩ := ff_back (Z := Z) (U := Wst Z vm h) hal s4
    cases f1.symm.trans (show h[q.sa]? = some q.sC from s1)
    rw [show Z.fieldFound? ST "value" "[B" = _ from z4] at f2
    injection f2 with f2
    simp only [Prod.mk.injEq] at f2
    obtain ⟨-, -, -, rfl⟩ := f2
    rw [s8] at f7
    injection f7 with f7
    cases f7
  · obtain ⟨cell, kx, f1, f2, f3, f4, f5⟩ := E
    cases f1.symm.trans (show h[q.sd]? = some q.SA from s10)
    obtain ⟨cI, kI, g1, g2, g3, -⟩ := Cond.instantiable_spec wi
    cases f2.symm.trans g1
    cases f3.symm.trans g2
    obtain ⟨-, k9, hk9, comp, hkind9⟩ := s11
    obtain ⟨k', hk', ek'⟩ := hal.2.2 _ _ g2
    cases hk'.symm.trans (show vm.classes[q.SA.cls]? = some k9 from hk9)
    rw [ek'] at hkind9
    exact absurd (g3.symm.trans hkind9) (by simp)
def Str (Z : State) (h : Heap) (x t : Addr) (cs : List Int32) : Prop := ∃ kb : ClassId, Exa Z h x ST ∧ Fld Z h x ST "value" "[B" (.ref t) ∧ Fld Z h x ST "coder" "B" (.int 0) ∧ Arv Z h t kb .byte (Int32.ofNat cs.length) ((cs.map fun c => c.toInt8.toInt32).map Value.int) (.int 0) ∧ (∀ c ∈ cs, ¬ c < 0 ∧ ¬ (255 : Int32) < c) ∧ cs.length ≤ 4000
theorem Str.exa {cs : List Int32} (F : Str Z h x t cs) : Exa Z h x ST := by obtain ⟨_, q, -⟩ := F; exact q
theorem Str.lt {cs : List Int32} (F : Str Z h x t cs) : x < h.size := F.exa.lt
theorem Str.ltB {cs : List Int32} (F : Str Z h x t cs) : t < h.size := by obtain ⟨_, -, -, -, q, -⟩ := F; exact q.lt
theorem Str.ext {cs : List Int32} (F : Str Z h x t cs) (E : Ext h h') : Str Z h' x t cs := by
  obtain ⟨kb, q1, q2, q3, q4, q5⟩ := F; exact ⟨kb, q1.ext E, q2.ext E, q3.ext E, q4.ext E, q5⟩
theorem Stp.str (A : Stp Z EL vm h vm' h' ws) {cs : List Int32} (F : Str Z h x t cs) (q : x ∉ ws) (r : t ∉ ws) : Str Z h' x t cs := by
  obtain ⟨kb, q1, q2, q3, q4, q5⟩ := F; exact ⟨kb, A.exa q1, A.fld q2 q, A.fld q3 q, A.arv q4 r, q5⟩
theorem Str.neB {cs : List Int32} {C : String} {n : Nat} (F : Str Z h x t cs) (E : Exa Z h a C) (w : (Jvm.Cond.instantiable C n).before a0 Z = true) : t ≠ a := by
  obtain ⟨_, -, -, -, q, -⟩ := F; exact (E.neArv q w).symm
theorem Str.ne {cs : List Int32} {C : String} (F : Str Z h x t cs) (E : Exa Z h a C) (q : C ≠ ST) : x ≠ a := (E.ne F.exa q).symm
theorem arr_neK {k1 k2 : ClassId} {t1 t2 : FieldType} {z1 z2 : Int32} {v1 v2 : List Value} {d1 d2 : Value} (A : Arv Z h a k1 t1 z1 v1 d1) (B : Arv Z h b k2 t2 z2 v2 d2) (q : t1 ≠ t2) : a ≠ b := fun e => by
  subst e
  obtain ⟨c1, ⟨p1, ⟨-, kA, r1, m1, s1⟩, -⟩, -⟩ := A
  obtain ⟨c2, ⟨p2, ⟨-, kB, r2, m2, s2⟩, -⟩, -⟩ := B
  cases p1.symm.trans p2
  cases r1.symm.trans r2
  exact q (by have := s1.symm.trans s2; injection this)
theorem Str.neV {cs : List Int32} {kc : ClassId} {ty : FieldType} {z : Int32} {vs : List Value} {d : Value} (F : Str Z h x t cs) (A : Arv Z h a kc ty z vs d) (q : ty ≠ .byte) : t ≠ a := by
  obtain ⟨_, -, -, -, r, -⟩ := F; exact arr_neK r A (Ne.symm q)
theorem Str.neX {cs : List Int32} {n : Nat} {kc : ClassId} {ty : FieldType} {z : Int32} {vs : List Value} {d : Value} (F : Str Z h x t cs) (A : Arv Z h a kc ty z vs d) (w : (Jvm.Cond.instantiable ST n).before a0 Z = true) : x ≠ a := F.exa.neArv A w
/-- Stepping laws. -/
theorem Sit.getF (hG : Cl p e below G) (S : Sit p l e R s m args below meth c Z EL own vm T h k n) (hx : p.tables.exec = Jvm.exec) {R0 O nm d host : String} {index : Nat} (w : (Jvm.Cond.fieldLink own index R0 nm d).before a0 Z = true ∨ (Jvm.Cond.fieldLinkNest own index R0 nm d host).before a0 Z = true) (via : Via Z R0 O nm d) {v : Value} (F : Fld Z h a O nm d v)
    {g : JFrame} (hg : g.method = m) {rest : List Value} (hs : g.stack = .ref a :: rest) (hd : decode c.code g.pc = .ok (.getfield index, 3)) (K : ∀ T', Sit p l e R s m args below meth c Z EL own vm T' h k n → G T' { g with pc := g.pc + 3, stack := v :: rest }) : G T g := by
  obtain ⟨locs, X, eT, hZ, hown, r⟩ := S
  obtain ⟨T', X', e', st⟩ := RoadKit.getF X hx hZ hown w via eT F hg hs hd
  exact hG.st st (K T' ⟨locs, X', e', hZ, hown, r⟩)
theorem Sit.getS (hG : Cl p e below G) (S : Sit p l e R s m args below meth c Z EL own vm T h k n) (hx : p.tables.exec = Jvm.exec) {R0 O nm d host : String} {index : Nat} (w : (Jvm.Cond.fieldLink own index R0 nm d).before a0 Z = true ∨ (Jvm.Cond.fieldLinkNest own index R0 nm d host).before a0 Z = true) (via : Via Z R0 O nm d) {v : Value} (F : Sta Z h O nm d v)
    {g : JFrame} (hg : g.method = m) (hd : decode c.code g.pc = .ok (.getstatic index, 3)) (K : ∀ T', Sit p l e R s m args below meth c Z EL own vm T' h k n → G T' { g with pc := g.pc + 3, stack := v :: g.stack }) : G T g := by
  obtain ⟨locs, X, eT, hZ, hown, r⟩ := S
  obtain ⟨T', X', e', st⟩ := RoadKit.getS2 X hx hZ hown w via eT F hg hd
  exact hG.st st (K T' ⟨locs, X', e', hZ, hown, r⟩)
theorem fr_one {locs : List Loc} {sl : Nat} (N : Fr Z.heap.size locs) (ga : Z.heap.size ≤ a) : Fr Z.heap.size (locs ++ [⟨a, sl⟩]) := N.app fun y hy => by cases List.mem_singleton.mp hy; exact ga
theorem Sit.putF (hG : Cl p e below G) (S : Sit p l e R s m args below meth c Z EL own vm T h k n) (hx : p.tables.exec = Jvm.exec) {R0 O nm d host C : String} {index kk : Nat} {ty : FieldType} (w : (Jvm.Cond.fieldLink own index R0 nm d).before a0 Z = true ∨ (Jvm.Cond.fieldLinkNest own index R0 nm d host).before a0 Z = true) (via : Via Z R0 O nm d) {v old : Value} (F : Fld Z h a O nm d old) (E : Exa Z h a C)
    (L : (Jvm.Cond.lays C O nm d).before a0 Z = true ∨ ((Jvm.Cond.laysFinal C O nm d).before a0 Z = true ∧ own = O ∧ meth.name = "<init>")) (wi : (Jvm.Cond.instantiable C kk).before a0 Z = true) (hty : parseFieldDescriptor d = some ty) (hn : narrow ty v = v) (hf : fits ty v = true) (ga : Z.heap.size ≤ a) (sf : Safe Z EL vm h a)
    {g : JFrame} (hg : g.method = m) {rest : List Value} (hs : g.stack = v :: .ref a :: rest) (hd : decode c.code g.pc = .ok (.putfield index, 3)) (K : ∀ T' h', Sit p l e R s m args below meth c Z EL own vm T' h' k n → Stp Z EL vm h vm h' [a] → Wr h h' a (RoadKit.slotOf Z O nm d) v → Fld Z h' a O nm d v → G T' { g with pc := g.pc + 3, stack := rest }) : G T g := by
  obtain ⟨locs, X, eT, hZ, hown, ⟨j, hS, hj⟩, C0, N, r⟩ := S
  obtain ⟨T', h', X', e', W, st⟩ := RoadKit.putF X hx hZ hown w via eT F E L wi hty hn hf hg hs hd
  have J := Stp.of_wr W sf C0.1
  exact hG.st st (K T' h' ⟨_, X', e', hZ, hown, ⟨j, hS, Nat.le_trans hj J.1.1⟩, C0.trans J.2, fr_one N ga, r⟩ J W (F.same W))
theorem Sit.newO (hG : Cl p e below G) (S : Sit p l e R s m args below meth c Z EL own vm T h k n) (hx : p.tables.exec = Jvm.exec) {C : String} {index nn : Nat} (w : (Jvm.Cond.classLink own index C).before a0 Z = true) (wi : (Jvm.Cond.instantiable C nn).before a0 Z = true) (wz : (Jvm.Cond.initialized C).before a0 Z = true)
    {g : JFrame} (hg : g.method = m) (hd : decode c.code g.pc = .ok (.new index, 3)) (hc : k + 1 ≤ R.cells) (hl : n + nn ≤ R.slots)
    (K : ∀ T' h' x, x = h.size → Sit p l e R s m args below meth c Z EL own vm T' h' (k + 1) (n + nn) → Stp Z EL vm h vm h' [] → Safe Z EL vm h' x → Exa Z h' x C → (∀ {O nm d : String} {ty : FieldType}, Laid Z a0 C O nm d → parseFieldDescriptor d = some ty → Fld Z h' x O nm d (defaultValue ty)) → G T' { g with pc := g.pc + 3, stack := .ref x :: g.stack }) : G T g := by
  obtain ⟨locs, X, eT, hZ, hown, ⟨j, hS, hj⟩, C0, r⟩ := S
  obtain ⟨T', h', X', e', E, A, D, -, st⟩ := RoadKit.newO X hx hZ hown w wi wz eT hg hd hc hl
  exact hG.st st (K T' h' _ rfl ⟨locs, X', e', hZ, hown, ⟨j, hS, Nat.le_trans hj E.1⟩, C0.trans (CHr.ext E C0.1), r⟩ (Stp.of_ext E C0.1) (Safe.ext E C0.1 (Safe.new (Nat.le_refl _))) A D)
theorem Sit.newP (hG : Cl p e below G) (S : Sit p l e R s m args below meth c Z EL own vm T h k n) (hx : p.tables.exec = Jvm.exec) {aty : ArrayType} (w : (Jvm.Cond.arrayClass (newarray.typeOf aty)).before a0 Z = true) {g : JFrame} (hg : g.method = m) (hd : decode c.code g.pc = .ok (.newarray aty, 2)) {z : Int32} {rest : List Value} (hs : g.stack = .int z :: rest)
    (hz : ¬ z < 0) {cap : Nat} (hcap : z.toNatClampNeg ≤ cap) (hb : cap * 8 ≤ 536870912) (hc : k + 1 ≤ R.cells) (hl : n + cap ≤ R.slots)
    (K : ∀ T' h' x cA, x = h.size → Sit p l e R s m args below meth c Z EL own vm T' h' (k + 1) (n + cap) → Stp Z EL vm h vm h' [] → Safe Z EL vm h' x → Arv Z h' x cA (newarray.typeOf aty) z (List.replicate z.toNatClampNeg (defaultValue (newarray.typeOf aty))) (defaultValue (newarray.typeOf aty)) → G T' { g with pc := g.pc + 2, stack := .ref x :: rest }) : G T g := by
  obtain ⟨locs, X, eT, hZ, hown, ⟨j, hS, hj⟩, C0, r⟩ := S
  obtain ⟨T', h', cA, X', e', E, A, st⟩ := RoadKit.newP X hx hZ w eT hg hd hs hz hcap hb hc hl
  exact hG.st st (K T' h' _ cA rfl ⟨locs, X', e', hZ, hown, ⟨j, hS, Nat.le_trans hj E.1⟩, C0.trans (CHr.ext E C0.1), r⟩ (Stp.of_ext E C0.1) (Safe.ext E C0.1 (Safe.new (Nat.le_refl _))) ((Arv.new A hz).pad (pad_rep [] _ _)))
theorem Sit.stC (hG : Cl p e below G) (S : Sit p l e R s m args below meth c Z EL own vm T h k n) (hx : p.tables.exec = Jvm.exec) {kc : ClassId} {z : Int32} {vs : List Value} {d : Value} (V : Arv Z h a kc .char z vs d) (ga : Z.heap.size ≤ a) {j y : Int32} (hj : ¬ j < 0 ∧ j < z) (i : Nat) (hi : j.toNatClampNeg = i) (hil : i < vs.length)
    {g : JFrame} (hg : g.method = m) {rest : List Value} (hs : g.stack = .int y :: .int j :: .ref a :: rest) (hd : decode c.code g.pc = .ok (.castore, 1)) (K : ∀ T' h', Sit p l e R s m args below meth c Z EL own vm T' h' k n → Stp Z EL vm h vm h' [a] → Arv Z h' a kc .char z (vs.set i (.int (nar .char y))) d → G T' { g with pc := g.pc + 1, stack := rest }) : G T g := by
  obtain ⟨locs, X, eT, hZ, hown, ⟨jj, hS, hjj⟩, C0, N, r⟩ := S
  obtain ⟨cl, A, q1, q2, q3, q4, q5⟩ := V
  obtain ⟨T', h', X', e', W, st⟩ := RoadKit.stC X hx hZ eT A (inb_of q2 hj) hg hs hd
  have J := Stp.of_wr W (Safe.arr hZ.alike A (by decide)) C0.1
  exact hG.st st (K T' h' ⟨_, X', e', hZ, hown, ⟨jj, hS, Nat.le_trans hjj J.1.1⟩, C0.trans J.2, fr_one N ga, r⟩ J (Arv.set A q1 q2 q3 q4 q5 (fits_nar_char _) W i hi hil))
theorem Sit.stB (hG : Cl p e below G) (S : Sit p l e R s m args below meth c Z EL own vm T h k n) (hx : p.tables.exec = Jvm.exec) {kc : ClassId} {z : Int32} {vs : List Value} {d : Value} (V : Arv Z h a kc .byte z vs d) (ga : Z.heap.size ≤ a) (sf : Safe Z EL vm h a) {j y : Int32} (hj : ¬ j < 0 ∧ j < z) (i : Nat) (hi : j.toNatClampNeg = i) (hil : i < vs.length)
    {g : JFrame} (hg : g.method = m) {rest : List Value} (hs : g.stack = .int y :: .int j :: .ref a :: rest) (hd : decode c.code g.pc = .ok (.bastore, 1)) (K : ∀ T' h', Sit p l e R s m args below meth c Z EL own vm T' h' k n → Stp Z EL vm h vm h' [a] → Arv Z h' a kc .byte z (vs.set i (.int (nar .byte y))) d → G T' { g with pc := g.pc + 1, stack := rest }) : G T g := by
  obtain ⟨locs, X, eT, hZ, hown, ⟨jj, hS, hjj⟩, C0, N, r⟩ := S
  obtain ⟨cl, A, q1, q2, q3, q4, q5⟩ := V
  obtain ⟨T', h', X', e', W, st⟩ := RoadKit.stB X hx hZ eT A (inb_of q2 hj) hg hs hd
  have J := Stp.of_wr W sf C0.1
  exact hG.st st (K T' h' ⟨_, X', e', hZ, hown, ⟨jj, hS, Nat.le_trans hjj J.1.1⟩, C0.trans J.2, fr_one N ga, r⟩ J (Arv.set A q1 q2 q3 q4 q5 (fits_nar_byte _) W i hi hil))
theorem Sit.caload (hG : Cl p e below G) (S : Sit p l e R s m args below meth c Z EL own vm T h k n) (hx : p.tables.exec = Jvm.exec) {kc : ClassId} {z : Int32} {vs : List Value} {d : Value} (V : Arv Z h a kc .char z vs d) {j : Int32} (hj : ¬ j < 0 ∧ j < z) {v : Value} (hv : vs.getD j.toNatClampNeg d = v)
    {g : JFrame} (hg : g.method = m) {rest : List Value} (hs : g.stack = .int j :: .ref a :: rest) (hd : decode c.code g.pc = .ok (.caload, 1)) (q : G T { g with pc := g.pc + 1, stack := v :: rest }) : G T g := by
  obtain ⟨locs, X, eT, hZ, hown, r⟩ := S
  obtain ⟨cl, A, q1, q2, q3, q4, q5⟩ := V
  exact hG.st (fun t q => X.caload hx (by rw [eT]; exact A.1) (State.isArrayOf_alike hZ.alike A.2.1) A.2.2 (inb_of q2 hj) (q4.at (inb_of q2 hj) hv) hg hs hd t q) q
theorem Sit.aaload (hG : Cl p e below G) (S : Sit p l e R s m args below meth c Z EL own vm T h k n) (hx : p.tables.exec = Jvm.exec) {kc : ClassId} {ty : FieldType} {z : Int32} {vs : List Value} {d : Value} (V : Arv Z h a kc ty z vs d) (hty : ty.isReference = true) {j : Int32} (hj : ¬ j < 0 ∧ j < z) {v : Value} (hv : vs.getD j.toNatClampNeg d = v)
    {g : JFrame} (hg : g.method = m) {rest : List Value} (hs : g.stack = .int j :: .ref a :: rest) (hd : decode c.code g.pc = .ok (.aaload, 1)) (q : G T { g with pc := g.pc + 1, stack := v :: rest }) : G T g := by
  obtain ⟨locs, X, eT, hZ, hown, r⟩ := S
  obtain ⟨cl, A, q1, q2, q3, q4, q5⟩ := V
  exact hG.st (fun t q => X.aaload hx (by rw [eT]; exact A.1) (State.isArrayOf_alike hZ.alike A.2.1) hty A.2.2 (inb_of q2 hj) (q4.at (inb_of q2 hj) hv) hg hs hd t q) q
theorem Sit.arraylength (hG : Cl p e below G) (S : Sit p l e R s m args below meth c Z EL own vm T h k n) (hx : p.tables.exec = Jvm.exec) {kc : ClassId} {ty : FieldType} {z : Int32} {vs : List Value} {d : Value} (V : Arv Z h a kc ty z vs d)
    {g : JFrame} (hg : g.method = m) {rest : List Value} (hs : g.stack = .ref a :: rest) (hd : decode c.code g.pc = .ok (.arraylength, 1)) (q : G T { g with pc := g.pc + 1, stack := .int z :: rest }) : G T g := by
  obtain ⟨locs, X, eT, hZ, hown, r⟩ := S
  obtain ⟨cl, A, q1, q2, q3, q4, q5⟩ := V
  exact hG.st (fun t q => X.arraylength hx (by rw [eT]; exact A.1) (State.isArrayOf_alike hZ.alike A.2.1) hg hs hd t (by rw [len_of q2 q3]; exact q)) q
theorem Sit.acmp (hG : Cl p e below G) (S : Sit p l e R s m args below meth c Z EL own vm T h k n) (hx : p.tables.exec = Jvm.exec) {g : JFrame} (hg : g.method = m) {cd : ACond} {v w : Value} (h1 : v.isRef = true) (h2 : w.isRef = true) {rest : List Value} {o : Int} {pc0 pc' : Nat} {same : Bool} (hpc : g.pc = pc0)
    (hd : decode c.code g.pc = .ok (.if_acmp cd o, 3)) (hs : g.stack = w :: v :: rest) (hq : decide (v = w) = same) (ho : 0 ≤ (pc0 : Int) + o) (hp : pc' = if acV cd same = true then ((pc0 : Int) + o).toNat else pc0 + 3) (q : G T { g with pc := pc', stack := rest }) : G T g := by
  obtain ⟨_, X, -⟩ := S
  exact hG.st (fun t r => RoadKit.acmp X hx hg h1 h2 hpc hd hs hq ho hp r) q
theorem Sit.instNull (hG : Cl p e below G) (S : Sit p l e R s m args below meth c Z EL own vm T h k n) (hx : p.tables.exec = Jvm.exec) {g : JFrame} (hg : g.method = m) {rest : List Value} (hs : g.stack = .null :: rest) {i : Nat} (hd : decode c.code g.pc = .ok (.instanceof i, 3)) (q : G T { g with pc := g.pc + 3, stack := .int 0 :: rest }) : G T g := by
  obtain ⟨_, X, -⟩ := S
  exact hG.st (fun t r => X.instanceofNull hx hg hs hd t r) q
theorem Sit.castNull (hG : Cl p e below G) (S : Sit p l e R s m args below meth c Z EL own vm T h k n) (hx : p.tables.exec = Jvm.exec) {g : JFrame} (hg : g.method = m) {rest : List Value} (hs : g.stack = .null :: rest) {i : Nat} (hd : decode c.code g.pc = .ok (.checkcast i, 3)) (q : G T { g with pc := g.pc + 3 }) : G T g := by
  obtain ⟨_, X, -⟩ := S
  exact hG.st (fun t r => X.checkcastNull hx hg hs hd t r) q
theorem Sit.ldcI (hG : Cl p e below G) (S : Sit p l e R s m args below meth c Z EL own vm T h k n) (hx : p.tables.exec = Jvm.exec) {index : Nat} {z : Int32} (w : (Jvm.Cond.constant own index z).before a0 Z = true) {g : JFrame} (hg : g.method = m) (hd : decode c.code g.pc = .ok (.ldc index, 2)) (q : G T { g with pc := g.pc + 2, stack := .int z :: g.stack }) : G T g := by
  obtain ⟨_, X, _, hZ, hown, -⟩ := S
  exact hG.st (fun t r => X.ldcInt hx hown (mvT hZ w) hg hd t r) q
theorem Sit.initO (hG : Cl p e below G) (S : Sit p l e R s m args below meth c Z EL own vm T h k n) (hx : p.tables.exec = Jvm.exec) {idx : Nat} (w1 : (Jvm.Cond.methodLink own idx Lib.objectInit).before a0 Z = true) (w2 : (Jvm.Cond.instanceMethod Lib.objectInit).before a0 Z = true) (w3 : (Jvm.Cond.code Lib.objectInit ⟨#[0xb1]⟩ 1 none).before a0 Z = true)
    {g : JFrame} (hg : g.method = m) (hsize : g.locals.size = c.maxLocals) {rest : List Value} (hs : g.stack = .ref a :: rest) (hd : decode c.code g.pc = .ok (.invokespecial idx, 3)) (hf : 1 ≤ R.frames) {W : Nat} (hW : 2 * g.monitorRoom + (rest.map fun v => v.category).sum ≤ W) (hl : W + 12 ≤ R.locals)
    (K : ∀ T', Sit p l e R s m args below meth c Z EL own vm T' h k n → G T' { g with pc := g.pc + 3, stack := rest }) : G T g := by
  obtain ⟨locs, X, eT, hZ, hown, r⟩ := S
  obtain ⟨T', X', e', st⟩ := RoadKit.initO X hx hZ hown w1 w2 w3 eT hg hsize hs hd hf hW hl
  exact hG.st st (K T' ⟨locs, X', e', hZ, hown, r⟩)
theorem Sit.castY (hG : Cl p e below G) (S : Sit p l e R s m args below meth c Z EL own vm T h k n) (hx : p.tables.exec = Jvm.exec) {K0 : String} {index : Nat} (w : (Jvm.Cond.classLink own index K0).before a0 Z = true) (F : Ins Z h a K0 true)
    {g : JFrame} (hg : g.method = m) {rest : List Value} (hs : g.stack = .ref a :: rest) (hd : decode c.code g.pc = .ok (.checkcast index, 3)) (K : ∀ T', Sit p l e R s m args below meth c Z EL own vm T' h k n → G T' { g with pc := g.pc + 3 }) : G T g := by
  obtain ⟨locs, X, eT, hZ, hown, r⟩ := S
  obtain ⟨T', X', e', st⟩ := RoadKit.castY X hx hZ hown w eT F hg hs hd
  exact hG.st st (K T' ⟨locs, X', e', hZ, hown, r⟩)
theorem Sit.cloneA (hG : Cl p e below G) (S : Sit p l e R s m args below meth c Z EL own vm T h k n) (hx : p.tables.exec = Jvm.exec) {ad : String} {index : Nat}
    (w1 : (Jvm.Cond.methodLink own index ⟨ad, "clone", "()Ljava/lang/Object;"⟩).before a0 Z = true) (w2 : (Jvm.Cond.sameMethod ad "java/lang/Object" "clone" "()Ljava/lang/Object;").before a0 Z = true) (w3 : (Jvm.Cond.native ⟨"java/lang/Object", "clone", "()Ljava/lang/Object;"⟩).before a0 Z = true)
    (w4 : (Jvm.Cond.instanceMethod ⟨"java/lang/Object", "clone", "()Ljava/lang/Object;"⟩).before a0 Z = true) (w5 : (Jvm.Cond.selects ad ⟨ad, "clone", "()Ljava/lang/Object;"⟩ ⟨"java/lang/Object", "clone", "()Ljava/lang/Object;"⟩).before a0 Z = true) (w6 : (Jvm.Cond.castable ad "java/lang/Cloneable").before a0 Z = true)
    {kc : ClassId} {ty : FieldType} {z : Int32} {vs : List Value} {d : Value} (F : Arv Z h a kc ty z vs d) (E : Exa Z h a ad) {g : JFrame} (hg : g.method = m) (hsize : g.locals.size = c.maxLocals) {rest : List Value} (hst : g.stack = .ref a :: rest) (hd : decode c.code g.pc = .ok (.invokevirtual index, 3))
    (hf : 1 ≤ R.frames) {W cap : Nat} (hW : 2 * g.monitorRoom + (rest.map fun v => v.category).sum ≤ W) (hl : W + 14 ≤ R.locals) (hcap : z.toNatClampNeg ≤ cap) (hc : k + 1 ≤ R.cells) (hsl : n + cap ≤ R.slots)
    (K : ∀ T' h' x, x = h.size → Sit p l e R s m args below meth c Z EL own vm T' h' (k + 1) (n + cap) → Stp Z EL vm h vm h' [] → Arv Z h' x kc ty z vs d → Exa Z h' x ad → G T' { g with pc := g.pc + 3, stack := .ref x :: rest }) : G T g := by
  obtain ⟨locs, X, eT, hZ, hown, ⟨j, hS, hj⟩, C0, r⟩ := S
  obtain ⟨T', h', X', e', E', A, D, st⟩ := RoadKit.cloneH X hx hZ hown w1 w2 w3 w4 w5 w6 eT F.arh E hg hsize hst hd hf hW hl hcap hc hsl
  exact hG.st st (K T' h' _ rfl ⟨locs, X', e', hZ, hown, ⟨j, hS, Nat.le_trans hj E'.1⟩, C0.trans (CHr.ext E' C0.1), r⟩ (Stp.of_ext E' C0.1) A D)
theorem Sit.ldc (hG : Cl p e below G) (S : Sit p l e R s m args below meth c Z EL own vm T h k n) (hx : p.tables.exec = Jvm.exec) (hEL : EW Z a0 EL) {text : String} {index : Nat} (w : (Jvm.Cond.stringLink own index text).before a0 Z = true) (wS : ∀ a ∈ Bundle.stringAtoms, a.before a0 Z = true) (hmem : (own, index) ∈ EL) {cs : List Int32}
    (ht : (∀ c ∈ text.toList, c.toNat < 256) ∧ text.toList.map (fun c => Value.int (Jvm.Lit.byteI c.toNat.toUInt16)) = (cs.map fun c => c.toInt8.toInt32).map Value.int) (hcs : ∀ c ∈ cs, ¬ c < 0 ∧ ¬ (255 : Int32) < c) (hlen : cs.length ≤ 4000)
    {g : JFrame} (hg : g.method = m) (hd : decode c.code g.pc = .ok (.ldc index, 2)) {nn : Nat} (hn : 4 * text.toList.length ≤ nn) (hbig : nn ≤ 536870912) (hc : k + 2 ≤ R.cells) (hl' : n + (nn + 4) ≤ R.slots)
    (K : ∀ vm' T' h' a b, Sit p l e R s m args below meth c Z EL own vm' T' h' (k + 2) (n + (nn + 4)) → Stp Z EL vm h vm' h' [] → Str Z h' a b cs → (∀ x, Safe Z EL vm' h' x → x ≠ a ∧ x ≠ b) → G T' { g with pc := g.pc + 2, stack := .ref a :: g.stack }) : G T g := by
  obtain ⟨locs, X, eT, hZ, hown, ⟨j, hS, hj⟩, C0, N, O, r⟩ := S
  have hz : ¬ Int32.ofNat cs.length < 0 := by rw [Int32.lt_iff_toInt_lt, Int32.toInt_ofNat_small (by omega)]; exact Int.not_lt.mpr (Int.natCast_nonneg _)
  have hl : (Int32.ofNat cs.length).toNatClampNeg = ((cs.map fun c => c.toInt8.toInt32).map Value.int).length := by simp [Int32.toNatClampNeg, Int32.toInt_ofNat_small (show cs.length < 2 ^ 31 by omega)]
  obtain ⟨a, T', h', k1, b, kb, X', e', E, hS', hk', hZ', hown', E1, F1, F2, V1, -, -, C1, -, sf, st⟩ := ldcCH X hx hZ hown w wS eT hS hj hEL hmem C0.1 ht hz hl hg hd hn hbig hc hl'
  exact hG.st st (K _ T' h' a b ⟨locs, X', e', hZ', hown', ⟨k1, hS', hk'⟩, C0.trans C1, N, O, r⟩ ⟨(Keep.refl _ _).ext E, C1⟩ ⟨kb, E1, F2, F1, V1, hcs, hlen⟩ sf)
theorem afterS {locs L : List Loc} {U : State} {k' n' : Nat} (eT : T.heap = h) (hZ : Z.Warmed39 vm) (hown : vm.findClass own = some m.cls) (hS : ∃ j, s.Since vm j ∧ j ≤ h.size) (C : CHr Z EL s.vm s.heap vm h) (N : Fr Z.heap.size locs) (O : Ext Z.heap s.heap)
    (X' : Stand p l e R ((s.setVm vm).setVm U.vm) m args below meth c U (locs ++ L) k' n') (h2 : (s.setVm vm).Since U.vm U.heap.size) (g2 : T.heap.size ≤ U.heap.size) (N' : Fr Z.heap.size L) (C' : CHr Z EL vm h U.vm U.heap) : Sit p l e R s m args below meth c Z EL own U.vm U U.heap k' n' := by
  obtain ⟨j, hS, hj⟩ := hS
  obtain ⟨q1, q2, q3, q4⟩ := rebS (Z := Z) (own := own) hS hj X' h2 (eT ▸ g2) hZ hown
  exact ⟨_, q1, rfl, q3, q4, ⟨_, q2, Nat.le_refl _⟩, C.trans C', N.app N', O, trivial⟩
/-- calls by contract -/
theorem Sit.callS (hG : Cl p e below G) (S : Sit p l e R s m args below meth c Z EL own vm T h k n) (hx : p.tables.exec = Jvm.exec) (hEL : EW Z a0 EL) {index : Nat} {y : MethodName} {bytes : ByteArray} {maxL : Nat} {ret : Option FieldType} {rm : Room} {as : List Value} {Q : Option Value → Heap → Prop}
    (wl : (Jvm.Cond.methodLink own index y).before a0 Z = true) (wt : (Jvm.Cond.static y).before a0 Z = true) (wz : (Jvm.Cond.initialized y.cls).before a0 Z = true) (wc : (Jvm.Cond.code y bytes maxL ret).before a0 Z = true) (hy : y.cls ≠ "java/lang/invoke/MethodHandle" ∧ y.cls ≠ "java/lang/invoke/VarHandle")
    (hM : Con l Z EL y bytes maxL ret [] rm as.toArray h Q) {ps : List FieldType} {r : Option FieldType} (hd0 : parseMethodDescriptor y.desc = some ⟨ps, r⟩) (hlen : as.length = ps.length)
    {g : JFrame} (hg : g.method = m) (hsize : g.locals.size = c.maxLocals) {rest : List Value} (hs : g.stack = as.reverse ++ rest) {W : Nat} (hW : 2 * g.monitorRoom + (rest.map fun v => v.category).sum ≤ W) (hd : decode c.code g.pc = .ok (.invokestatic index, 3))
    (hf : rm.frames + 1 ≤ R.frames) (hl : W + (maxL + 11) + rm.locals ≤ R.locals) (hc : k + rm.cells ≤ R.cells) (hsl : n + rm.slots ≤ R.slots)
    (K : ∀ v vm' T' h', Sit p l e R s m args below meth c Z EL own vm' T' h' (k + rm.cells) (n + rm.slots) → CHr Z EL vm h vm' h' → Q v h' → G T' { g with pc := g.pc + 3, stack := v.toList ++ rest }) : G T g := by
  obtain ⟨locs, X, eT, hZ, hown, hS, C, N, O, hn⟩ := S
  obtain ⟨v, vm1, ⟨U, L', k', n'⟩, -, X', h2, g2, ⟨L, ⟨hQ, hF⟩, q1, q2, q3, hC⟩, st⟩ := callSS X hx hown (mvT hZ wl) (mvT hZ wt) (mvT hZ wz) (mvT hZ wc) hy (backOfSH (W := W) (Q := fun v h L => Q v h ∧ Fr Z.heap.size L) hM hZ wc wz hf hl hEL C.1) hg hsize (lenOf hd0 hlen) hs hW hd (fun _ _ => ⟨rfl, eT, hc, hsl⟩)
  dsimp only [Pt.U, Pt.locs, Pt.cells, Pt.slots] at X' h2 g2 hQ q1 q2 q3 hC st
  subst q1 q2 q3
  exact hG.st (fun t q => st.trans q) (K v U.vm U U.heap (afterS eT hZ hown hS C N O X' h2 g2 hF hC) hC hQ)
theorem Sit.callV (hG : Cl p e below G) (S : Sit p l e R s m args below meth c Z EL own vm T h k n) (hx : p.tables.exec = Jvm.exec) (hEL : EW Z a0 EL) {C : String} {index : Nat} {y : MethodName} {bytes : ByteArray} {maxL : Nat} {ret : Option FieldType} {rm : Room} {as : List Value} {Q : Option Value → Heap → Prop}
    (wl : (Jvm.Cond.methodLink own index y).before a0 Z = true) (wd : (Jvm.Cond.declares y).before a0 Z = true) (wsl : (Jvm.Cond.selects C y y).before a0 Z = true) (wim : (Jvm.Cond.instanceMethod y).before a0 Z = true) (wz : (Jvm.Cond.initialized y.cls).before a0 Z = true) (wc : (Jvm.Cond.code y bytes maxL ret).before a0 Z = true) (hy : y.cls ≠ "java/lang/invoke/MethodHandle" ∧ y.cls ≠ "java/lang/invoke/VarHandle")
    (E : Exa Z h b C) (hM : Con l Z EL y bytes maxL ret [] rm (.ref b :: as).toArray h Q) {ps : List FieldType} {r : Option FieldType} (hd0 : parseMethodDescriptor y.desc = some ⟨ps, r⟩) (hlen : as.length = ps.length)
    {g : JFrame} (hg : g.method = m) (hsize : g.locals.size = c.maxLocals) {rest : List Value} (hs : g.stack = as.reverse ++ .ref b :: rest) {W : Nat} (hW : 2 * g.monitorRoom + (rest.map fun v => v.category).sum ≤ W) (hd : decode c.code g.pc = .ok (.invokevirtual index, 3))
    (hf : rm.frames + 1 ≤ R.frames) (hl : W + (maxL + 11) + rm.locals ≤ R.locals) (hc : k + rm.cells ≤ R.cells) (hsl : n + rm.slots ≤ R.slots)
    (K : ∀ v vm' T' h', Sit p l e R s m args below meth c Z EL own vm' T' h' (k + rm.cells) (n + rm.slots) → CHr Z EL vm h vm' h' → Q v h' → G T' { g with pc := g.pc + 3, stack := v.toList ++ rest }) : G T g := by
  obtain ⟨locs, X, eT, hZ, hown, hS, C, N, O, hn⟩ := S
  obtain ⟨cB, kB, i1, -, i2⟩ := isOf (s := s.setVm vm) hZ eT E
  obtain ⟨v, vm1, ⟨U, L', k', n'⟩, -, X', h2, g2, ⟨L, ⟨hQ, hF⟩, q1, q2, q3, hC⟩, st⟩ := X.virtualBackS hx (y := y) (z := y) hown (mvT hZ wl) (mvT hZ wd) (notFace_of_selects (args := #[]) (mvT hZ wsl)) (mvT hZ wsl) (mvT hZ wim) hy (backOfSH (W := W) (Q := fun v h L => Q v h ∧ Fr Z.heap.size L) hM hZ wc wz hf hl hEL C.1) i1 i2 hg hsize (Steps.refl _) (argsL := as) (lenOf hd0 hlen) hs hW hd (fun _ _ => ⟨rfl, eT, hc, hsl⟩)
  dsimp only [Pt.U, Pt.locs, Pt.cells, Pt.slots] at X' h2 g2 hQ q1 q2 q3 hC st
  subst q1 q2 q3
  exact hG.st (fun t q => st.trans q) (K v U.vm U U.heap (afterS eT hZ hown hS C N O X' h2 g2 hF hC) hC hQ)
theorem Sit.callI (hG : Cl p e below G) (S : Sit p l e R s m args below meth c Z EL own vm T h k n) (hx : p.tables.exec = Jvm.exec) (hEL : EW Z a0 EL) {index : Nat} {y : MethodName} (hy1 : y.name = "<init>") {bytes : ByteArray} {maxL : Nat} {rm : Room} {as : List Value} {Q : Option Value → Heap → Prop}
    (wl : (Jvm.Cond.methodLink own index y).before a0 Z = true) (wim : (Jvm.Cond.instanceMethod y).before a0 Z = true) (wz : (Jvm.Cond.initialized y.cls).before a0 Z = true) (wc : (Jvm.Cond.code y bytes maxL none).before a0 Z = true) (hy : y.cls ≠ "java/lang/invoke/MethodHandle" ∧ y.cls ≠ "java/lang/invoke/VarHandle")
    (hM : Con l Z EL y bytes maxL none [] rm (.ref b :: as).toArray h Q) {ps : List FieldType} {r : Option FieldType} (hd0 : parseMethodDescriptor y.desc = some ⟨ps, r⟩) (hlen : as.length = ps.length)
    {g : JFrame} (hg : g.method = m) (hsize : g.locals.size = c.maxLocals) {rest : List Value} (hs : g.stack = as.reverse ++ .ref b :: rest) {W : Nat} (hW : 2 * g.monitorRoom + (rest.map fun v => v.category).sum ≤ W) (hd : decode c.code g.pc = .ok (.invokespecial index, 3))
    (hf : rm.frames + 1 ≤ R.frames) (hl : W + (maxL + 11) + rm.locals ≤ R.locals) (hc : k + rm.cells ≤ R.cells) (hsl : n + rm.slots ≤ R.slots)
    (K : ∀ v vm' T' h', Sit p l e R s m args below meth c Z EL own vm' T' h' (k + rm.cells) (n + rm.slots) → CHr Z EL vm h vm' h' → Q v h' → G T' { g with pc := g.pc + 3, stack := v.toList ++ rest }) : G T g := by
  obtain ⟨locs, X, eT, hZ, hown, hS, C, N, O, hn⟩ := S
  obtain ⟨v, vm1, ⟨U, L', k', n'⟩, -, X', h2, g2, ⟨L, ⟨hQ, hF⟩, q1, q2, q3, hC⟩, st⟩ := X.specialBackS hx (y := y) hy1 hown (mvT hZ wl) (mvT hZ wim) (mvT hZ wc) hy (backOfSH (W := W) (Q := fun v h L => Q v h ∧ Fr Z.heap.size L) hM hZ wc wz hf hl hEL C.1) hg hsize (Steps.refl _) (a := b) (argsL := as) (lenOf hd0 hlen) hs hW hd (fun _ _ => ⟨rfl, eT, hc, hsl⟩)
  dsimp only [Pt.U, Pt.locs, Pt.cells, Pt.slots] at X' h2 g2 hQ q1 q2 q3 hC st
  subst q1 q2 q3
  exact hG.st (fun t q => st.trans q) (K v U.vm U U.heap (afterS eT hZ hown hS C N O X' h2 g2 hF hC) hC hQ)
theorem Sit.retN {t : FieldType} {Q : Option Value → Heap → Prop} (hR : Rt p l e R s m args below meth c Z EL own Q G) (S : Sit p l e R s m args below meth c Z EL own vm T h k n) (hx : p.tables.exec = Jvm.exec) (hret : meth.sig.returnType = some t) (ht : t = .boolean ∨ t = .byte ∨ t = .char ∨ t = .short) {pc : Nat} {Ls : Array Slot} {z : Int32} {rest : List Value} (hd : decode c.code pc = .ok (.ireturn, 1)) (hk : k ≤ R.cells) (hn : n ≤ R.slots) (hQ : Q (some (.int (nar t z))) h) : G T (mkF m pc Ls (.int z :: rest)) :=
  hR vm T h k n _ _ S hk hn (fun q => by rw [hret] at q; cases q) hQ (fun fs hr => by obtain ⟨_, X, -⟩ := S; exact RoadKit.retN X hx hret ht hd hr)
theorem Sit.retO {t : FieldType} {i : Instr} {Q : Option Value → Heap → Prop} (hR : Rt p l e R s m args below meth c Z EL own Q G) (S : Sit p l e R s m args below meth c Z EL own vm T h k n) (hx : p.tables.exec = Jvm.exec) (hret : meth.sig.returnType = some t) {pc : Nat} {Ls : Array Slot} {w : Value} {rest : List Value} (hnw : narrow t w = w)
    (hi : (i = .ireturn ∧ (t = .int ∨ t = .boolean ∨ t = .byte ∨ t = .char ∨ t = .short) ∧ ∃ z, w = .int z) ∨ (i = .lreturn ∧ t = .long ∧ ∃ z, w = .long z) ∨ (i = .dreturn ∧ t = .double ∧ ∃ z, w = .double z) ∨ (i = .freturn ∧ t = .float ∧ ∃ z, w = .float z) ∨ (i = .areturn ∧ t.isReference = true ∧ w.isRef = true))
    (hd : decode c.code pc = .ok (i, 1)) (hk : k ≤ R.cells) (hn : n ≤ R.slots) (hQ : Q (some w) h) : G T (mkF m pc Ls (w :: rest)) :=
  hR vm T h k n _ _ S hk hn (fun q => by rw [hret] at q; cases q) hQ (fun fs hr => by obtain ⟨_, X, -⟩ := S; exact RoadKit.retOut X hx hret hnw hi hd hr)
theorem Sit.ret0 {Q : Option Value → Heap → Prop} (hR : Rt p l e R s m args below meth c Z EL own Q G) (S : Sit p l e R s m args below meth c Z EL own vm T h k n) (hx : p.tables.exec = Jvm.exec) (hret : meth.sig.returnType = none) {pc : Nat} {Ls : Array Slot} (hd : decode c.code pc = .ok (.return_, 1)) (hk : k ≤ R.cells) (hn : n ≤ R.slots) (hQ : Q none h) : G T (mkF m pc Ls []) :=
  hR vm T h k n _ _ S hk hn (fun q => rfl) hQ (fun fs hr => by obtain ⟨_, X, -⟩ := S; exact X.returnOut hx hret hd hr)
theorem Con.of {y : MethodName} {bytes : ByteArray} {maxL : Nat} {ret : Option FieldType} {cw : List Jvm.Cond} {rm : Room} {as : Array Value} {Q : Option Value → Heap → Prop} (hp : plainFor y = true) (hEL : EW Z a0 EL) (hO : Ext Z.heap h)
    (body : ∀ {p : Program} {e : Env} {s : State} {m : MethodId} {below : List Frame} {meth : Method} {c : Code} {T : State} {G : State → JFrame → Prop} {vm : Vm}, p.tables.exec = Jvm.exec → c.code = bytes → c.maxLocals = maxL → meth.sig.returnType = ret → meth.name = y.name → Cl p e below G → Rt p l e rm s m as below meth c Z EL y.cls Q G → Sit p l e rm s m as below meth c Z EL y.cls vm T h 0 0 → G T (entryFrame m as maxL)) :
    Con l Z EL y bytes maxL ret cw rm as h Q := by
  refine MetFree.of_bodySF hp hisR ?_
  intro p e s m args below meth c s₁ Bd hml0 hP hK
  obtain ⟨rfl, hZ, rfl, hC⟩ := hP
  have X0 : Stand p l e rm s m args below meth c s₁ [] 0 0 := Stand.of_body Bd
  have e0 : s₁.heap = s.heap := by rw [Bd.state]; rfl
  have hlk : meth.locks = false := Bd.notSynchronized
  have hX : Stand p l e rm (s.setVm s.vm) m args below meth c s₁ [] 0 0 := by rw [State.setVm_self]; exact X0
  refine body (G := fun T g => ∃ s₂ o, Steps p.tables e below (T.setTop g) s₂ ∧ s₂.status = .running ∧ Ended s₂ below o ∧ ∃ v L, o = .returned v ∧ (Q v s₂.heap ∧ Fr Z.heap.size L) ∧ CHr Z EL s.vm s.heap s₂.vm s₂.heap ∧ ReturnedEndW s o s₂ L rm.cells rm.slots) (vm := s.vm) Bd.exec Bd.bytes hml0 Bd.returns (name_of_methodNamed Bd.named Bd.method).1 (fun T T' g g' f ⟨s₂, o, st, r⟩ => ⟨s₂, o, f _ st, r⟩) ?_
    ⟨[], hX, e0, hZ, findClass_of_methodNamed Bd.named, ⟨_, (State.WarmedH.refl s).since _, Nat.le_refl _⟩, CHr.refl hC, Fr.nil _, hO, trivial⟩
  intro vm T h k n v g S hk hn hv hQ hst
  obtain ⟨locs, X, rfl, hZ', hown', ⟨j, hS, hj⟩, C0, N, O, hN⟩ := S
  obtain ⟨fs, hr, hrun, hended, hend⟩ := X.leaveW hS hj hv hlk
  exact ⟨_, _, hst fs hr, hrun, hended, v, locs, rfl, ⟨hQ, N⟩, C0.trans (show CHr Z EL vm T.heap T.vm T.heap from CHv.at X hZ' hEL C0.1), hend.1, hend.2.1, hend.2.2.1, hend.2.2.2.mono hk hn⟩
end L
end Jvm.Pilot.@@N@@.Own
namespace Jvm.Pilot.@@N@@.Own
open Jvm Jvm.ClassFile Sem Op Lib Jvm.Free Jvm.Stand Jvm.LawKit Jvm.RoadKit
section L2
variable {p : Program} {l : Launch} {e : Env} {R : Room} {s : State} {m : MethodId} {args : Array Value} {below : List Frame} {meth : Method} {c : Code} {Z : State} {EL : List (String × Nat)} {own : String} {a0 : Array Value} {vm vm' vm'' : Vm} {T T' : State} {h h' h'' : Heap} {k n : Nat} {G : State → JFrame → Prop} {ws ws' us : List Addr} {x a b t : Addr}
/-- COMPACT_STRINGS is on -/
def Cmp (Z : State) : Prop := ∃ z : Int32, Sta Z Z.heap ST "COMPACT_STRINGS" "Z" (.int z) ∧ ¬ z = 0
def Sio (Z : State) : Prop := ∃ fm : Value, Sta Z Z.heap "jdk/internal/util/Preconditions" "SIOOBE_FORMATTER" "Ljava/util/function/BiFunction;" fm ∧ fm.isRef = true
theorem up (cs : List Int32) (h : ∀ c ∈ cs, ¬ c < 0 ∧ ¬ (255 : Int32) < c) : ∀ c ∈ cs, ¬ c < 0 ∧ ¬ (65535 : Int32) < c := fun c hc => ⟨(h c hc).1, fun q => (h c hc).2 (by rw [Int32.lt_iff_toInt_lt] at q ⊢; have e1 : (65535 : Int32).toInt = 65535 := rfl; have e2 : (255 : Int32).toInt = 255 := rfl; omega)⟩
/-- a pure virtual call paid by a Back -/
theorem Sit.pureV (hG : Cl p e below G) (S : Sit p l e R s m args below meth c Z EL own vm T h k n) (hx : p.tables.exec = Jvm.exec) {C : String} {index : Nat} {y : MethodName} {as : List Value} {Q : Option Value → Prop}
    (wl : (Jvm.Cond.methodLink own index y).before a0 Z = true) (wd : (Jvm.Cond.declares y).before a0 Z = true) (wsl : (Jvm.Cond.selects C y y).before a0 Z = true) (wim : (Jvm.Cond.instanceMethod y).before a0 Z = true) (hy : y.cls ≠ "java/lang/invoke/MethodHandle" ∧ y.cls ≠ "java/lang/invoke/VarHandle")
    (E : Exa Z h b C) {W : Nat} (hK : Back l R p e below (s.setVm vm) args y 3 W (fun P a => a = (.ref b :: as).toArray ∧ P.U.heap = h ∧ P.cells + 0 ≤ R.cells ∧ P.slots + 0 ≤ R.slots) (fun P _ v B => ∃ L, (Q v ∧ L = [] ∧ B.U.heap = h) ∧ B.locs = P.locs ++ L ∧ B.cells = P.cells + 0 ∧ B.slots = P.slots + 0))
    {ps : List FieldType} {r : Option FieldType} (hd0 : parseMethodDescriptor y.desc = some ⟨ps, r⟩) (hlen : as.length = ps.length)
    {g : JFrame} (hg : g.method = m) (hsize : g.locals.size = c.maxLocals) {rest : List Value} (hs : g.stack = as.reverse ++ .ref b :: rest) (hW : 2 * g.monitorRoom + (rest.map fun v => v.category).sum ≤ W) (hd : decode c.code g.pc = .ok (.invokevirtual index, 3)) (hc : k ≤ R.cells) (hsl : n ≤ R.slots)
    (K : ∀ v T', Sit p l e R s m args below meth c Z EL own vm T' h k n → Q v → G T' { g with pc := g.pc + 3, stack := v.toList ++ rest }) : G T g := by
  obtain ⟨locs, X, eT, hZ, hown, hS, C, N, O, hn⟩ := S
  obtain ⟨cB, kB, i1, -, i2⟩ := isOf (s := s.setVm vm) hZ eT E
  obtain ⟨v, vm1, ⟨U, L', k', n'⟩, -, X', ⟨L, ⟨hq, hL, hU⟩, q1, q2, q3⟩, st⟩ := X.virtualBack hx (y := y) (z := y) hown (mvT hZ wl) (mvT hZ wd) (notFace_of_selects (args := #[]) (mvT hZ wsl)) (mvT hZ wsl) (mvT hZ wim) hy hK i1 i2 hg hsize (Steps.refl _) (argsL := as) (lenOf hd0 hlen) hs hW hd (fun _ _ => ⟨rfl, eT, hc, hsl⟩)
  dsimp only [Pt.U, Pt.locs, Pt.cells, Pt.slots] at X' hU q1 q2 q3 st
  subst q1 q2 q3 hL
  rw [List.append_nil] at X'
  exact hG.st (fun t q => st.trans q) (K v U ⟨locs, X', hU, hZ, hown, hS, C, N, O, hn⟩ hq)
section Nw
variable {args : Array Value} {u v : Term} {z : Int32} {vs : List Value} {dv : Value} {ty : FieldType} {cs : List Int32}
theorem eqI (h : (Jvm.Cond.eq u v).value args s none s [] = some true) (hb : v.eval args s none [] s = some (.int z)) : u.eval args s none [] s = some (.int z) := by
  obtain ⟨x, y, h1, h2, h3, h4⟩ := cmp_v (Or.inl h)
  cases h2.symm.trans hb
  obtain ⟨w, rfl⟩ := h4
  have := gotT (Cond.eq_ints h1 hb) h
  rw [h1, this]
theorem eqR (h : (Jvm.Cond.eq u v).value args s none s [] = some true) (hb : v.eval args s none [] s = some (.ref a)) : u.eval args s none [] s = some (.ref a) := by
  obtain ⟨x, y, h1, h2, h3, h4⟩ := cmp_v (Or.inl h)
  cases h2.symm.trans hb
  have := gotT (eq_R h1 hb h4.2 rfl) h
  rw [h1, this]
theorem eqR2 (h : (Jvm.Cond.eq u v).value args s none s [] = some true) (hb : u.eval args s none [] s = some (.ref a)) : v.eval args s none [] s = some (.ref a) := by
  obtain ⟨x, y, h1, h2, h3, h4⟩ := cmp_v (Or.inl h)
  cases h1.symm.trans hb
  have := gotT (eq_R hb h2 rfl h3.2) h
  rw [h2, ← this]
theorem arvOf (hf : Fit s) (ev : u.eval args s none [] s = some (.ref a)) (hA : (Jvm.Cond.arrayOf u ty).value args s none s [] = some true) (hl : (Jvm.Cond.eq (.length u) (.int z)).value args s none s [] = some true) (hz : ¬ z < 0) (hn : z.toNatClampNeg = vs.length)
    (hv : ∀ i (hi : i < vs.length), (Term.elem u (.int (Int32.ofNat i))).eval args s none [] s = some vs[i]) : ∃ kc, Arv s s.heap a kc ty z vs dv := by
  obtain ⟨cl, A⟩ := Arr.start ev hA
  have hlen := eqI hl (Term.int_eval z)
  have hat : s.arrayAt? a = some cl := A.fin ⟨rfl, rfl, fun _ k hk => ⟨k, hk, rfl⟩⟩
  have h31 := SBG.length_lt ev hat hlen
  have hs : cl.slots.size.toInt32 = z := by
    have := (len_f ev hat h31).symm.trans hlen
    simpa using this
  have hsz : cl.slots.size = z.toNatClampNeg := by
    rw [← hs]
    show _ = (Int32.ofNat cl.slots.size).toNatClampNeg
    simp [Int32.toNatClampNeg, Int32.toInt_ofNat_small h31]
  have hel : ∀ i, i < cl.slots.size → cl.slots[i]? = some (vs.getD i dv) := fun i hi => by
    have hi' : i < vs.length := by omega
    have q := elem_in (hv i hi') ev (Term.int_eval _) A.1
    have e : (Int32.ofNat i).toNatClampNeg = i := by simp [Int32.toNatClampNeg, Int32.toInt_ofNat_small (show i < 2 ^ 31 by omega)]
    rw [e] at q
    rw [q.2]; simp [hi']
  refine ⟨cl.cls, cl, A, rfl, hsz, hz, hel, fun i hi => ?_⟩
  have e : (Int32.ofNat i).toNatClampNeg = i := by simp [Int32.toNatClampNeg, Int32.toInt_ofNat_small (show i < 2 ^ 31 by omega)]
  have hnn : ¬ (Int32.ofNat i < 0 ∨ cl.slots.size ≤ (Int32.ofNat i).toNatClampNeg) := by
    rw [e, Int32.lt_iff_toInt_lt, Int32.toInt_ofNat_small (show i < 2 ^ 31 by omega)]
    have : (0 : Int32).toInt = 0 := rfl
    omega
  obtain ⟨w, hw1, hw2⟩ := elem_fit hf A hnn
  rw [e, hel i hi] at hw1
  cases hw1
  exact hw2
theorem strOf (hf : Fit s) (ev : u.eval args s none [] s = some (.ref x)) (E : Exa s s.heap x ST) (hc : (Term.field u ST "coder" "B").eval args s none [] s = some (.int 0)) (hv : (Term.field u ST "value" "[B").eval args s none [] s = some (.ref t))
    (hA : (Jvm.Cond.arrayOf (.field u ST "value" "[B") .byte).value args s none s [] = some true) (hl : (Jvm.Cond.eq (.length (.field u ST "value" "[B")) (.int (Int32.ofNat cs.length))).value args s none s [] = some true) (hr : ∀ c ∈ cs, ¬ c < 0 ∧ ¬ (255 : Int32) < c) (hn : cs.length ≤ 4000) (hz : (Int32.ofNat cs.length).toNatClampNeg = cs.length)
    (he : ∀ i (hi : i < cs.length), (Term.elem (.field u ST "value" "[B") (.int (Int32.ofNat i))).eval args s none [] s = some (.int (cs[i]).toInt8.toInt32)) : Str s s.heap x t cs := by
  have hz0 : ¬ Int32.ofNat cs.length < 0 := by
    rw [Int32.lt_iff_toInt_lt, Int32.toInt_ofNat_small (by omega)]
    exact Int.not_lt.mpr (Int.natCast_nonneg _)
  obtain ⟨kc, A⟩ := arvOf (dv := .int 0) (vs := (cs.map fun c => c.toInt8.toInt32).map Value.int) hf hv hA hl hz0 (by rw [hz]; simp) (fun i hi => by
    have hi' : i < cs.length := by simpa using hi
    rw [he i hi']; simp)
  exact ⟨kc, E, Fld.start ((fld_at ev).symm.trans hv), Fld.start ((fld_at ev).symm.trans hc), A, hr, hn⟩
end Nw
theorem Sit.strLen (hG : Cl p e below G) (S : Sit p l e R s m args below meth c Z EL own vm T h k n) (hx : p.tables.exec = Jvm.exec) (hws : ∀ d ∈ StrChars.Road.wordsLen, d.before a0 Z = true) (hcs : Cmp Z) (wi : (Jvm.Cond.instantiable ST 4).before a0 Z = true) {index : Nat}
    (wl : (Jvm.Cond.methodLink own index ⟨"java/lang/String", "length", "()I"⟩).before a0 Z = true) (wd : (Jvm.Cond.declares ⟨"java/lang/String", "length", "()I"⟩).before a0 Z = true) (wsl : (Jvm.Cond.selects ST ⟨"java/lang/String", "length", "()I"⟩ ⟨"java/lang/String", "length", "()I"⟩).before a0 Z = true) (wim : (Jvm.Cond.instanceMethod ⟨"java/lang/String", "length", "()I"⟩).before a0 Z = true)
    {cs : List Int32} (F : Str Z h b t cs) {g : JFrame} (hg : g.method = m) (hsize : g.locals.size = c.maxLocals) {rest : List Value} (hs : g.stack = .ref b :: rest) {W : Nat} (hW : 2 * g.monitorRoom + (rest.map fun v => v.category).sum ≤ W) (hd : decode c.code g.pc = .ok (.invokevirtual index, 3)) (hf : 2 ≤ R.frames) (hl : W + 25 ≤ R.locals) (hc : k ≤ R.cells) (hsl : n ≤ R.slots)
    (K : ∀ T', Sit p l e R s m args below meth c Z EL own vm T' h k n → G T' { g with pc := g.pc + 3, stack := .int (Int32.ofNat cs.length) :: rest }) : G T g := by
  obtain ⟨z, hz1, hz2⟩ := hcs
  obtain ⟨kb, q1, q2, q3, q4, q5, q6⟩ := F
  have hcd := StrChars.Road.codOf (cs := cs) (n := cs.length) rfl (fun c hc => (q5 c hc).2)
  refine S.pureV hG hx (Q := fun v => v = some (.int (Int32.ofNat cs.length))) wl wd wsl wim (by decide) q1 (as := []) (W := W) (StrChars.Road.lenW (W := W) S.warm hws wi q1 q2 q3 q4 hcd (up _ q5) (hz1.ext S.old) hz2 q6 hf hl) (ps := []) (r := some .int) (by decide +kernel) rfl hg hsize (rest := rest) hs hW hd hc hsl ?_
  rintro v T' S' rfl
  exact K T' S'
theorem Sit.newStr (hG : Cl p e below G) (S : Sit p l e R s m args below meth c Z EL own vm T h k n) (hx : p.tables.exec = Jvm.exec) (hws : ∀ d ∈ StrChars.Road.words, d.before a0 Z = true) (hcs : Cmp Z) (wi : (Jvm.Cond.instantiable ST 4).before a0 Z = true) {index : Nat}
    (wl : (Jvm.Cond.methodLink own index ⟨"java/lang/String", "<init>", "([C)V"⟩).before a0 Z = true) (wim : (Jvm.Cond.instanceMethod ⟨"java/lang/String", "<init>", "([C)V"⟩).before a0 Z = true)
    {cs : List Int32} {kC : ClassId} {d v0 c0 : Value} {zn : Int32} (gx : Z.heap.size ≤ x) (sf : Safe Z EL vm h x) (E : Exa Z h x ST) (V : Fld Z h x ST "value" "[B" v0) (C : Fld Z h x ST "coder" "B" c0) (A : Arv Z h b kC .char zn (cs.map Value.int) d) (hN : zn = Int32.ofNat cs.length) (l0 : 0 < cs.length) (l2 : cs.length ≤ 4000) (hp : ∀ c ∈ cs, ¬ c < 0 ∧ ¬ (255 : Int32) < c)
    {nn : Nat} (hnn : cs.length ≤ nn) {g : JFrame} (hg : g.method = m) (hsize : g.locals.size = c.maxLocals) {rest : List Value} (hs : g.stack = .ref b :: .ref x :: rest) {W : Nat} (hW : 2 * g.monitorRoom + (rest.map fun v => v.category).sum ≤ W) (hd : decode c.code g.pc = .ok (.invokespecial index, 3)) (hf : 4 ≤ R.frames) (hl : W + 65 ≤ R.locals) (hc : k + 1 ≤ R.cells) (hsl : n + nn ≤ R.slots)
    (K : ∀ T' h' t, Sit p l e R s m args below meth c Z EL own vm T' h' (k + 1) (n + nn) → Stp Z EL vm h vm h' [x] → h.size ≤ t → Str Z h' x t cs → G T' { g with pc := g.pc + 3, stack := rest }) : G T g := by
  obtain ⟨z, hz1, hz2⟩ := hcs
  have ho := S.old
  obtain ⟨locs, X, eT, hZ, hown, ⟨j, hS, hj⟩, C0, N, O, hn⟩ := S
  obtain ⟨v, vm1, ⟨U, L', k', n'⟩, -, X', ⟨L, hQ, q1, q2, q3⟩, st⟩ := X.specialBack hx (y := (⟨"java/lang/String", "<init>", "([C)V"⟩ : MethodName)) rfl hown (mvT hZ wl) (mvT hZ wim) (mvT hZ (hws _ List.mem_cons_self)) (by decide) (StrChars.Road.backV (W := W) (bs := cs.map (fun c => c.toInt8.toInt32)) (n := cs.length) (n0 := Z.heap.size) hZ hws wi gx ho.1 E V C A (hz1.ext ho) hz2 rfl hN l0 l2 hp rfl hf hl) hg hsize (Steps.refl _) (a := x) (argsL := [.ref b]) (rest := rest) (lenOf (ps := [.array .char]) (r := none) (by decide +kernel) rfl) hs hW hd (fun _ _ => ⟨rfl, eT, hc, Nat.le_trans (Nat.add_le_add_left hnn _) hsl⟩)
  dsimp only [Pt.U, Pt.locs, Pt.cells, Pt.slots] at X' hQ q1 q2 q3 st
  subst q1 q2 q3
  obtain ⟨rfl, N', K', E', C', t, kb, t1, t2, t3, V', A'⟩ := hQ
  have J : Stp Z EL vm h vm U.heap [x] := Stp.of_keep K' (allS sf all0) C0.1
  subst hN
  refine hG.st (fun t q => st.trans q) (K U U.heap t ⟨_, { X' with same := X'.same.mono (Nat.le_refl _) (Nat.add_le_add_left hnn _) }, rfl, hZ, hown, ⟨j, hS, Nat.le_trans hj K'.1⟩, C0.trans J.2, N.app N', O, hn⟩ J t2 ⟨kb, E', V', C', A', hp, l2⟩)
end L2
end Jvm.Pilot.@@N@@.Own

namespace Jvm.Pilot.@@N@@.Own
open Jvm Jvm.ClassFile Sem Op Lib Jvm.Free Jvm.Stand Jvm.LawKit Jvm.RoadKit
section L3
variable {p : Program} {l : Launch} {e : Env} {R : Room} {s : State} {m : MethodId} {args : Array Value} {below : List Frame} {meth : Method} {c : Code} {Z : State} {EL : List (String × Nat)} {own : String} {a0 : Array Value} {vm vm' vm'' : Vm} {T T' : State} {h h' h'' : Heap} {k n : Nat} {G : State → JFrame → Prop} {ws ws' us : List Addr} {x a b t : Addr}
theorem Sit.callF (hG : Cl p e below G) (S : Sit p l e R s m args below meth c Z EL own vm T h k n) (hx : p.tables.exec = Jvm.exec) (hEL : EW Z a0 EL) {C : String} {index count : Nat} {xi y : MethodName} {bytes : ByteArray} {maxL : Nat} {ret : Option FieldType} {rm : Room} {as : List Value} {Q : Option Value → Heap → Prop}
    (wl : (Jvm.Cond.methodLink own index xi).before a0 Z = true) (wd : (Jvm.Cond.declares xi).before a0 Z = true) (wf : (Jvm.Cond.interfaceMethod xi.cls xi.cls xi.name xi.desc).before a0 Z = true) (wsl : (Jvm.Cond.selects C xi y).before a0 Z = true) (wim : (Jvm.Cond.instanceMethod y).before a0 Z = true) (wp : (Jvm.Cond.publicMethod y).before a0 Z = true) (wu : (Jvm.Cond.unhidden C xi.name xi.desc).before a0 Z = true) (wk : (Jvm.Cond.castable C xi.cls).before a0 Z = true) (wz : (Jvm.Cond.initialized y.cls).before a0 Z = true) (wc : (Jvm.Cond.code y bytes maxL ret).before a0 Z = true) (hy : xi.cls ≠ "java/lang/invoke/MethodHandle" ∧ xi.cls ≠ "java/lang/invoke/VarHandle")
    (E : Exa Z h b C) (hM : Con l Z EL y bytes maxL ret [] rm (.ref b :: as).toArray h Q) {ps : List FieldType} {r : Option FieldType} (hd0 : parseMethodDescriptor xi.desc = some ⟨ps, r⟩) (hlen : as.length = ps.length)
    {g : JFrame} (hg : g.method = m) (hsize : g.locals.size = c.maxLocals) {rest : List Value} (hs : g.stack = as.reverse ++ .ref b :: rest) {W : Nat} (hW : 2 * g.monitorRoom + (rest.map fun v => v.category).sum ≤ W) (hd : decode c.code g.pc = .ok (.invokeinterface index count, 5))
    (hf : rm.frames + 1 ≤ R.frames) (hl : W + (maxL + 11) + rm.locals ≤ R.locals) (hc : k + rm.cells ≤ R.cells) (hsl : n + rm.slots ≤ R.slots)
    (K : ∀ v vm' T' h', Sit p l e R s m args below meth c Z EL own vm' T' h' (k + rm.cells) (n + rm.slots) → CHr Z EL vm h vm' h' → Q v h' → G T' { g with pc := g.pc + 5, stack := v.toList ++ rest }) : G T g := by
  obtain ⟨locs, X, eT, hZ, hown, hS, C, N, O, hn⟩ := S
  obtain ⟨cB, kB, i1, i3, i2⟩ := isOf (s := s.setVm vm) hZ eT E
  obtain ⟨v, vm1, ⟨U, L', k', n'⟩, -, X', h2, g2, ⟨L, ⟨hQ, hF⟩, q1, q2, q3, hC⟩, st⟩ := X.interfaceBackS hx (xi := xi) (y := y) hown (mvT hZ wl) (mvT hZ wd) (mvT hZ wf (hd := (by rw [beq_self_eq_true, bne_iff_ne.mpr hy.1, bne_iff_ne.mpr hy.2]; rfl : (xi.cls == xi.cls && xi.cls != "java/lang/invoke/MethodHandle" && xi.cls != "java/lang/invoke/VarHandle") = true))) (mvT hZ wsl) (mvT hZ wim) (mvT hZ wp) (mvT hZ wu) (mvT hZ wk) hy (backOfSH (W := W) (Q := fun v h L => Q v h ∧ Fr Z.heap.size L) hM hZ wc wz hf hl hEL C.1) i1 i3 i2 hg hsize (Steps.refl _) (argsL := as) (lenOf hd0 hlen) hs hW hd (fun _ _ => ⟨rfl, eT, hc, hsl⟩)
  dsimp only [Pt.U, Pt.locs, Pt.cells, Pt.slots] at X' h2 g2 hQ q1 q2 q3 hC st
  subst q1 q2 q3
  exact hG.st (fun t q => st.trans q) (K v U.vm U U.heap (afterS eT hZ hown hS C N O X' h2 g2 hF hC) hC hQ)
theorem Sit.cpA (hG : Cl p e below G) (S : Sit p l e R s m args below meth c Z EL own vm T h k n) (hx : p.tables.exec = Jvm.exec) {index : Nat}
    (w1 : (Jvm.Cond.methodLink own index Jvm.Stand.acN).before a0 Z = true) (w2 : (Jvm.Cond.native Jvm.Stand.acN).before a0 Z = true) (w3 : (Jvm.Cond.static Jvm.Stand.acN).before a0 Z = true) (w4 : (Jvm.Cond.initialized "java/lang/System").before a0 Z = true)
    {k1 k2 : ClassId} {ty : FieldType} {z1 z2 sp dp nn : Int32} {vs vd us : List Value} {dv dd : Value} (A : Arv Z h a k1 ty z1 vs dv) (B : Arv Z h b k2 ty z2 vd dd) (hty : refKind ty = false)
    (h1 : ¬ sp < 0) (h2 : ¬ dp < 0) (h3 : ¬ nn < 0) (h4 : sp.toNatClampNeg + nn.toNatClampNeg ≤ z1.toNatClampNeg) (h5 : dp.toNatClampNeg + nn.toNatClampNeg ≤ z2.toNatClampNeg) (hus : us = (List.range nn.toNatClampNeg).map fun i => vs.getD (sp.toNatClampNeg + i) dv) (hl : dp.toNatClampNeg + nn.toNatClampNeg ≤ vd.length) (ge : Z.heap.size ≤ b) (sf : Safe Z EL vm h b)
    {g : JFrame} (hg : g.method = m) (hsize : g.locals.size = c.maxLocals) {rest : List Value} (hs : g.stack = .int nn :: .int dp :: .ref b :: .int sp :: .ref a :: rest) (hd : decode c.code g.pc = .ok (.invokestatic index, 3)) (hf : 1 ≤ R.frames) {W : Nat} (hW : 2 * g.monitorRoom + (rest.map fun v => v.category).sum ≤ W) (hlo : W + (nativeFrameWords "java/lang/System" "arraycopy" 5 + 11) ≤ R.locals)
    (K : ∀ T' h', Sit p l e R s m args below meth c Z EL own vm T' h' k n → Stp Z EL vm h vm h' [b] → Arv Z h' b k2 ty z2 (vd.take dp.toNatClampNeg ++ us ++ vd.drop (dp.toNatClampNeg + nn.toNatClampNeg)) dd → G T' { g with pc := g.pc + 3, stack := rest }) : G T g := by
  obtain ⟨locs, X, eT, hZ, hown, ⟨jj, hS, hjj⟩, C0, N, r⟩ := S
  obtain ⟨T', h', L, X', e', N', K', V', st⟩ := RoadKit.cpA X hx hZ hown w1 w2 w3 w4 eT A B (Or.inl ⟨rfl, hty⟩) h1 h2 h3 h4 h5 hus hl N ge hg hsize hs hd hf hW hlo
  have J : Stp Z EL vm h vm h' [b] := Stp.of_keep K' (allS sf all0) C0.1
  exact hG.st st (K T' h' ⟨_, X', e', hZ, hown, ⟨jj, hS, Nat.le_trans hjj K'.1⟩, C0.trans J.2, N', r⟩ J V')
/-- a byte array whose length is no literal's isn't booked -/
theorem Safe.size {kc : ClassId} {z : Int32} {vs : List Value} {d : Value} {nI : Nat} (hZ : Z.Warmed39 vm) (A : Arv Z h x kc .byte z vs d) (wi : (Jvm.Cond.instantiable ST nI).before a0 Z = true) (hEL : ∀ p ∈ EL, ∃ text : String, (Jvm.Cond.stringLink p.1 p.2 text).before a0 Z = true ∧ (∀ c ∈ text.toList, c.toNat < 256) ∧ text.toList.length ≠ z.toNatClampNeg) : Safe Z EL vm h x := fun B => by
  obtain ⟨p, hp, u, a, hb, q, hqa, hS, hy⟩ := B
  have hal := hZ.alike
  obtain ⟨cS, ⟨⟨s1, s2, s3, ⟨cv, kv, iv, s4, s4'⟩, ⟨cc, kc', ic, s5, s5'⟩, s6, s7, s8, s9, s10, s11, s12, s13, s14, s15, s16⟩, hfS, hcS⟩, ⟨kS, k1, k2, k3⟩, hB, hbyt⟩ := hS
  obtain ⟨cl, Aa, r1, r2, r3, -⟩ := A
  rcases hy with rfl | rfl
  · obtain ⟨f1, ⟨-, kA, hkA, comp, hkind⟩, -⟩ := Aa
    cases f1.symm.trans (show h[q.sa]? = some q.sC from s1)
    obtain ⟨k', hk', ek'⟩ := hal.2.2 _ _ hkA
    have : k' = kS := Option.some.inj (hk'.symm.trans (show vm.classes[q.sC.cls]? = some kS from hcS ▸ k1))
    rw [← this, ek'] at k2
    rw [hkind] at k2; cases k2
  · cases Aa.1.symm.trans (show h[q.sd]? = some q.SA from s10)
    obtain ⟨text, wl, ht, hne⟩ := hEL p hp
    obtain ⟨c, k, cf, i, b1, b2, b3, b4, b5, -⟩ := hb
    have hcZ : Z.vm.findClass p.1 = some c := by rw [← hal.findClass]; exact b1
    obtain ⟨k0, cf0, i0, units0, g1, g2, g3, g4, -, g5, -⟩ := Cond.stringLink_spec hcZ wl
    obtain ⟨k', hk', ek'⟩ := hal.2.2 _ _ g1
    cases hk'.symm.trans b2
    rw [ek'] at b3
    cases g2.symm.trans b3
    cases g3.symm.trans b4
    cases g4.symm.trans b5
    refine hne ?_
    have hl := Jvm.ClassFile.lat_of_text g5 ht
    have e1 : q.SA.slots.size = u.size := by rw [hbyt, SBG.stringBytes_lat hl, Array.size_map]
    have e2 := congrArg List.length (Jvm.ClassFile.units_of_text g5 ht)
    simp at e2
    rw [← r2, e1, e2]
theorem same_of {C : String} {y y' : MethodName} (hy : y.cls ≠ "java/lang/invoke/MethodHandle" ∧ y.cls ≠ "java/lang/invoke/VarHandle") (wim : (Jvm.Cond.instanceMethod y).before a0 Z = true) (wsl : (Jvm.Cond.selects C y' y').before a0 Z = true) (hc : y'.cls = y.cls) : (Jvm.Cond.sameMethod y.cls y.cls y.name y.desc).before a0 Z = true := by
  obtain ⟨mz, methz, hn, -⟩ := Cond.instanceMethod_spec wim
  have hf := State.methodFound?_of_named hn hy
  have hcl := findClass_of_methodNamed hn
  obtain ⟨c2, r2, m2, q1, q2, q3, q4, kP, hkP, hkPi⟩ := Cond.selects_spec wsl
  have hcl' := findClass_of_methodNamed q3
  rw [hc, hcl] at hcl'
  injection hcl' with hcl'
  simp [Cond.before, Cond.holds, Cond.value, hcl, hf, hn, hcl', hkP, hkPi]
theorem Sit.callU (hG : Cl p e below G) (S : Sit p l e R s m args below meth c Z EL own vm T h k n) (hx : p.tables.exec = Jvm.exec) (hEL : EW Z a0 EL) {C : String} {index : Nat} {y : MethodName} {bytes : ByteArray} {maxL : Nat} {ret : Option FieldType} {rm : Room} {as : List Value} {Q : Option Value → Heap → Prop}
    (wl : (Jvm.Cond.methodLink own index y).before a0 Z = true) (wsm : (Jvm.Cond.sameMethod y.cls y.cls y.name y.desc).before a0 Z = true) (wim : (Jvm.Cond.instanceMethod y).before a0 Z = true) (wsp : (Jvm.Cond.superclass own y.cls).before a0 Z = true) (hyn : y.name ≠ "<init>") (wz : (Jvm.Cond.initialized y.cls).before a0 Z = true) (wc : (Jvm.Cond.code y bytes maxL ret).before a0 Z = true)
    (E : Exa Z h b C) (hM : Con l Z EL y bytes maxL ret [] rm (.ref b :: as).toArray h Q) {ps : List FieldType} {r : Option FieldType} (hd0 : parseMethodDescriptor y.desc = some ⟨ps, r⟩) (hlen : as.length = ps.length)
    {g : JFrame} (hg : g.method = m) (hsize : g.locals.size = c.maxLocals) {rest : List Value} (hs : g.stack = as.reverse ++ .ref b :: rest) {W : Nat} (hW : 2 * g.monitorRoom + (rest.map fun v => v.category).sum ≤ W) (hd : decode c.code g.pc = .ok (.invokespecial index, 3))
    (hf : rm.frames + 1 ≤ R.frames) (hl : W + (maxL + 11) + rm.locals ≤ R.locals) (hc : k + rm.cells ≤ R.cells) (hsl : n + rm.slots ≤ R.slots)
    (K : ∀ v vm' T' h', Sit p l e R s m args below meth c Z EL own vm' T' h' (k + rm.cells) (n + rm.slots) → CHr Z EL vm h vm' h' → Q v h' → G T' { g with pc := g.pc + 3, stack := v.toList ++ rest }) : G T g := by
  obtain ⟨locs, X, eT, hZ, hown, hS, C, N, O, hn⟩ := S
  obtain ⟨v, vm1, ⟨U, L', k', n'⟩, -, X', h2, g2, ⟨L, ⟨hQ, hF⟩, q1, q2, q3, hC⟩, st⟩ := RoadKit.superBackS X hx hZ hown wl wsm wim wsp hyn (backOfSH (W := W) (Q := fun v h L => Q v h ∧ Fr Z.heap.size L) hM hZ wc wz hf hl hEL C.1) eT (Ins.self E) hg hsize wc (argsL := as) (lenOf hd0 hlen) hs hW hd (fun _ _ => ⟨rfl, eT, hc, hsl⟩)
  dsimp only [Pt.U, Pt.locs, Pt.cells, Pt.slots] at X' h2 g2 hQ q1 q2 q3 hC st
  subst q1 q2 q3
  exact hG.st (fun t q => st.trans q) (K v U.vm U U.heap (afterS eT hZ hown hS C N O X' h2 g2 hF hC) hC hQ)
theorem Sit.callPS (hG : Cl p e below G) (S : Sit p l e R s m args below meth c Z EL own vm T h k n) (hx : p.tables.exec = Jvm.exec) (hEL : EW Z a0 EL) {C : String} {index : Nat} {y : MethodName} {bytes : ByteArray} {maxL : Nat} {ret : Option FieldType} {rm : Room} {as : List Value} {Q : Option Value → Heap → Prop}
    (wl : (Jvm.Cond.methodLink own index y).before a0 Z = true) (wpr : (Jvm.Cond.privateMethod y).before a0 Z = true) {C1 : String} (wse : (Jvm.Cond.selects C1 y y).before a0 Z = true) (wim : (Jvm.Cond.instanceMethod y).before a0 Z = true) (wz : (Jvm.Cond.initialized y.cls).before a0 Z = true) (wc : (Jvm.Cond.code y bytes maxL ret).before a0 Z = true) (hy : y.cls ≠ "java/lang/invoke/MethodHandle" ∧ y.cls ≠ "java/lang/invoke/VarHandle")
    (E : Exa Z h b C) (hM : Con l Z EL y bytes maxL ret [] rm (.ref b :: as).toArray h Q) {ps : List FieldType} {r : Option FieldType} (hd0 : parseMethodDescriptor y.desc = some ⟨ps, r⟩) (hlen : as.length = ps.length)
    {g : JFrame} (hg : g.method = m) (hsize : g.locals.size = c.maxLocals) {rest : List Value} (hs : g.stack = as.reverse ++ .ref b :: rest) {W : Nat} (hW : 2 * g.monitorRoom + (rest.map fun v => v.category).sum ≤ W) (hd : decode c.code g.pc = .ok (.invokevirtual index, 3))
    (hf : rm.frames + 1 ≤ R.frames) (hl : W + (maxL + 11) + rm.locals ≤ R.locals) (hc : k + rm.cells ≤ R.cells) (hsl : n + rm.slots ≤ R.slots)
    (K : ∀ v vm' T' h', Sit p l e R s m args below meth c Z EL own vm' T' h' (k + rm.cells) (n + rm.slots) → CHr Z EL vm h vm' h' → Q v h' → G T' { g with pc := g.pc + 3, stack := v.toList ++ rest }) : G T g := by
  obtain ⟨locs, X, eT, hZ, hown, hS, C, N, O, hn⟩ := S
  obtain ⟨cq, i1, i2⟩ := E.cell
  have hpv : (s.setVm vm).PrivateAt y := Cond.privateMethod_at (mvP (s := s.setVm vm) hZ wpr (args := #[]))
  have wsl : (Jvm.Cond.selects y.cls y y).before args (s.setVm vm) = true := by
    obtain ⟨c2, r2, m2, p1, p2, p3, p4, kP, hkP, hkPi⟩ := Cond.selects_spec (mv (s := s.setVm vm) (args := args) hZ wse)
    exact selects_self_of_private (findClass_of_methodNamed p3) hkP hkPi hpv (mvT hZ wim) hy
  obtain ⟨v, vm1, ⟨U, L', k', n'⟩, -, X', h2, g2, ⟨L, ⟨hQ, hF⟩, q1, q2, q3, hC⟩, st⟩ := X.privateBackS hx (y := y) hown (mvT hZ wl) (mvT hZ wim) wsl hpv (mvT hZ wc) hy (backOfSH (W := W) (Q := fun v h L => Q v h ∧ Fr Z.heap.size L) hM hZ wc wz hf hl hEL C.1) hg hsize (Steps.refl _) (a := b) (by rw [eT]; exact i1) i2 (argsL := as) (lenOf hd0 hlen) hs hW hd (fun _ _ => ⟨rfl, eT, hc, hsl⟩)
  dsimp only [Pt.U, Pt.locs, Pt.cells, Pt.slots] at X' h2 g2 hQ q1 q2 q3 hC st
  subst q1 q2 q3
  exact hG.st (fun t q => st.trans q) (K v U.vm U U.heap (afterS eT hZ hown hS C N O X' h2 g2 hF hC) hC hQ)
theorem Sit.callVZ (hG : Cl p e below G) (S : Sit p l e R s m args below meth c Z EL own vm T h k n) (hx : p.tables.exec = Jvm.exec) (hEL : EW Z a0 EL) {C C1 : String} {index : Nat} {y y' z : MethodName} {bytes : ByteArray} {maxL : Nat} {ret : Option FieldType} {rm : Room} {as : List Value} {Q : Option Value → Heap → Prop}
    (wl : (Jvm.Cond.methodLink own index y).before a0 Z = true) (wd : (Jvm.Cond.declares y).before a0 Z = true) (wsl : (Jvm.Cond.selects C y z).before a0 Z = true) (wsf : (Jvm.Cond.selects C1 y' y').before a0 Z = true) (hc' : y'.cls = y.cls) (wim : (Jvm.Cond.instanceMethod z).before a0 Z = true) (wz : (Jvm.Cond.initialized z.cls).before a0 Z = true) (wc : (Jvm.Cond.code z bytes maxL ret).before a0 Z = true) (hy : y.cls ≠ "java/lang/invoke/MethodHandle" ∧ y.cls ≠ "java/lang/invoke/VarHandle")
    (E : Exa Z h b C) (hM : Con l Z EL z bytes maxL ret [] rm (.ref b :: as).toArray h Q) {ps : List FieldType} {r : Option FieldType} (hd0 : parseMethodDescriptor y.desc = some ⟨ps, r⟩) (hlen : as.length = ps.length)
    {g : JFrame} (hg : g.method = m) (hsize : g.locals.size = c.maxLocals) {rest : List Value} (hs : g.stack = as.reverse ++ .ref b :: rest) {W : Nat} (hW : 2 * g.monitorRoom + (rest.map fun v => v.category).sum ≤ W) (hd : decode c.code g.pc = .ok (.invokevirtual index, 3))
    (hf : rm.frames + 1 ≤ R.frames) (hl : W + (maxL + 11) + rm.locals ≤ R.locals) (hc : k + rm.cells ≤ R.cells) (hsl : n + rm.slots ≤ R.slots)
    (K : ∀ v vm' T' h', Sit p l e R s m args below meth c Z EL own vm' T' h' (k + rm.cells) (n + rm.slots) → CHr Z EL vm h vm' h' → Q v h' → G T' { g with pc := g.pc + 3, stack := v.toList ++ rest }) : G T g := by
  obtain ⟨locs, X, eT, hZ, hown, hS, C, N, O, hn⟩ := S
  obtain ⟨cB, kB, i1, -, i2⟩ := isOf (s := s.setVm vm) hZ eT E
  have hNF : NotFace (s.setVm vm) y := fun r0 h0 => by
    obtain ⟨c2, r2, m2, p1, p2, p3, p4, kP, hkP, hkPi⟩ := Cond.selects_spec (mv (s := s.setVm vm) (args := args) hZ wsf)
    have e1 := findClass_of_methodNamed h0
    have e2 := findClass_of_methodNamed p3
    rw [hc', e1] at e2
    injection e2 with e2
    exact ⟨kP, by rw [e2]; exact hkP, hkPi⟩
  obtain ⟨v, vm1, ⟨U, L', k', n'⟩, -, X', h2, g2, ⟨L, ⟨hQ, hF⟩, q1, q2, q3, hC⟩, st⟩ := X.virtualBackS hx (y := y) (z := z) hown (mvT hZ wl) (mvT hZ wd) hNF (mvT hZ wsl) (mvT hZ wim) hy (backOfSH (W := W) (Q := fun v h L => Q v h ∧ Fr Z.heap.size L) hM hZ wc wz hf hl hEL C.1) i1 i2 hg hsize (Steps.refl _) (argsL := as) (lenOf hd0 hlen) hs hW hd (fun _ _ => ⟨rfl, eT, hc, hsl⟩)
  dsimp only [Pt.U, Pt.locs, Pt.cells, Pt.slots] at X' h2 g2 hQ q1 q2 q3 hC st
  subst q1 q2 q3
  exact hG.st (fun t q => st.trans q) (K v U.vm U U.heap (afterS eT hZ hown hS C N O X' h2 g2 hF hC) hC hQ)
theorem Sit.baload (hG : Cl p e below G) (S : Sit p l e R s m args below meth c Z EL own vm T h k n) (hx : p.tables.exec = Jvm.exec) {kc : ClassId} {z : Int32} {vs : List Value} {d : Value} (V : Arv Z h a kc .byte z vs d) {j : Int32} (hj : ¬ j < 0 ∧ j < z) {v : Value} (hv : vs.getD j.toNatClampNeg d = v)
    {g : JFrame} (hg : g.method = m) {rest : List Value} (hs : g.stack = .int j :: .ref a :: rest) (hd : decode c.code g.pc = .ok (.baload, 1)) (q : G T { g with pc := g.pc + 1, stack := v :: rest }) : G T g := by
  obtain ⟨locs, X, eT, hZ, hown, r⟩ := S
  obtain ⟨cl, A, q1, q2, q3, q4, q5⟩ := V
  have hU : Z.Warmed39 T.vm := wtrans (s := s.setVm vm) hZ X.warmed
  have hb := inb_of q2 hj
  have r1 := rng32 z
  have r2 := rng32 j
  have hk : j = Int32.ofNat j.toNatClampNeg := by
    have e0 : (0 : Int32).toInt = 0 := rfl
    have h1 := hj.1
    simp only [Int32.lt_iff_toInt_lt, e0] at h1
    apply Int32.toInt_inj.mp
    rw [Int32.toInt_ofNat_small (by simp only [Int32.toNatClampNeg]; omega)]
    simp only [Int32.toNatClampNeg]
    omega
  have hz31 : cl.slots.size < 2 ^ 31 := by rw [q2]; simp only [Int32.toNatClampNeg]; omega
  exact hG.st (fun t q => X.aget hx (t := .byte) ⟨by rw [eT]; exact A.1, State.isArrayOf_alike hU.alike A.2.1, A.2.2, hz31⟩ hk (q4.at hb hv) hg hs hd q) q
end L3
end Jvm.Pilot.@@N@@.Own

namespace Jvm.Pilot.@@N@@
open Jvm Jvm.ClassFile Sem Op Lib Jvm.Free Jvm.Stand Jvm.LawKit Jvm.RoadKit Bundle Jvm.Pilot.@@N@@.Jvm.D
def own_Wld (Z : State) (a0 : Array Value) : Prop := (∀ d ∈ tables_1, d.before a0 Z = true) ∧ Own.Cmp Z ∧ Own.Sio Z ∧ EW Z a0 consts_1
set_option maxRecDepth 65536 in
theorem own_wbackV : ∀ d ∈ StrChars.Road.words, d ∈ tables_1 := by decide +kernel
set_option maxRecDepth 65536 in
theorem own_wlenW : ∀ d ∈ StrChars.Road.wordsLen, d ∈ tables_1 := by decide +kernel
set_option maxRecDepth 65536 in
theorem own_wSA : ∀ d ∈ Bundle.stringAtoms, d ∈ tables_1 := by decide +kernel
def own_bv (cs : List Int32) : List Value := (cs.map fun c => c.toInt8.toInt32).map Value.int
def own_buf (cs : List Int32) : List Value := own_bv cs ++ List.replicate (16 - cs.length) (.int 0)
def own_SB (Z : State) (h : Heap) (b v : Addr) (kv : ClassId) (cs : List Int32) : Prop := Exa Z h b "java/lang/StringBuilder" ∧ Fld Z h b "java/lang/AbstractStringBuilder" "value" "[B" (.ref v) ∧ Fld Z h b "java/lang/AbstractStringBuilder" "coder" "B" (.int 0) ∧ Fld Z h b "java/lang/AbstractStringBuilder" "count" "I" (.int (Int32.ofNat cs.length)) ∧ Arv Z h v kv .byte (16 : Int32) (own_buf cs) (.int 0)
theorem own_bvl (cs : List Int32) : (own_bv cs).length = cs.length := by simp [own_bv]
theorem own_bufl {cs : List Int32} (h : cs.length ≤ 16) : (own_buf cs).length = 16 := by simp [own_buf, own_bvl]; omega
theorem own_bva (cs ds : List Int32) : own_bv (cs ++ ds) = own_bv cs ++ own_bv ds := by simp [own_bv]
theorem own_put {cs ds : List Int32} (h : cs.length + ds.length ≤ 16) : (own_buf cs).take cs.length ++ own_bv ds ++ (own_buf cs).drop (cs.length + ds.length) = own_buf (cs ++ ds) := by
  have e1 : (own_buf cs).take cs.length = own_bv cs := by
    rw [own_buf, List.take_append_of_le_length (by rw [own_bvl]; omega), List.take_of_length_le (by rw [own_bvl]; omega)]
  have e2 : (own_buf cs).drop (cs.length + ds.length) = List.replicate (16 - (cs.length + ds.length)) (.int 0) := by
    rw [own_buf, List.drop_append, List.drop_of_length_le (by rw [own_bvl]; omega), own_bvl, List.nil_append, List.drop_replicate]
    congr 1; omega
  rw [e1, e2, own_buf, own_bva, List.length_append]
theorem own_tn {n : Nat} (h : n ≤ 4000) : (Int32.ofNat n).toNatClampNeg = n := by simp [Int32.toNatClampNeg, Int32.toInt_ofNat_small (show n < 2 ^ 31 by omega)]
theorem own_ti {n : Nat} (h : n ≤ 4000) : (Int32.ofNat n).toInt = n := Int32.toInt_ofNat_small (show n < 2 ^ 31 by omega)
theorem own_nn {n : Nat} (h : n ≤ 4000) : ¬ (Int32.ofNat n) < 0 := by
  have e0 : (0 : Int32).toInt = 0 := rfl
  rw [Int32.lt_iff_toInt_lt, own_ti h, e0]; omega
theorem own_addn (a b : Nat) : Int32.ofNat a + Int32.ofNat b = Int32.ofNat (a + b) := (Int32.ofNat_add a b).symm
theorem own_cnt (cs ds : List Int32) : Int32.ofNat cs.length + Int32.ofNat ds.length = Int32.ofNat (cs ++ ds).length := by rw [own_addn, List.length_append]
theorem own_sh16 : ((16 : Int32) >>> ((0 : Int32) &&& 31)) = 16 := by decide
theorem own_shl0 (d : Int32) : d <<< ((0 : Int32) &&& 31) = d := by
  have e : ((0 : Int32) &&& 31) = 0 := by decide
  rw [e]; simp
theorem own_ec {n : Nat} (h : n ≤ 16) : ¬ (0 : Int32) < Int32.ofNat n - ((16 : Int32) >>> ((0 : Int32) &&& 31)) := by
  have e0 : (0 : Int32).toInt = 0 := rfl
  have e16 : (16 : Int32).toInt = 16 := rfl
  rw [own_sh16, Int32.lt_iff_toInt_lt, e0]
  have a1 := c_isub (Int32.ofNat n) 16
  have a2 := rng32 (Int32.ofNat n - 16)
  rw [own_ti (by omega), e16] at a1
  omega
theorem own_rg0 (l : List Value) (d : Value) : (List.range l.length).map (fun i => l.getD (0 + i) d) = l := by
  apply List.ext_getElem
  · simp
  · intro i h1 h2
    simp [h2]
theorem own_us {l : List Value} {d : Value} {n : Nat} (hn : n ≤ 4000) (hl : l.length = n) : l = (List.range (Int32.ofNat n).toNatClampNeg).map fun i => l.getD ((0 : Int32).toNatClampNeg + i) d := by
  rw [own_tn hn, ← hl]; exact (own_rg0 l d).symm
theorem own_us2 {cs : List Int32} {d : Value} (h : cs.length ≤ 16) : own_bv cs = (List.range (Int32.ofNat cs.length).toNatClampNeg).map fun i => (own_buf cs).getD ((0 : Int32).toNatClampNeg + i) d := by
  rw [own_tn (by omega)]
  apply List.ext_getElem
  · simp [own_bvl]
  · intro i h1 h2
    rw [own_bvl] at h1
    have e : (0 : Int32).toNatClampNeg + i = i := Nat.zero_add i
    have h3 : i < (own_bv cs).length := by rw [own_bvl]; exact h1
    simp only [List.getElem_map, List.getElem_range, e]
    rw [own_buf, List.getD_eq_getElem?_getD, List.getElem?_append_left h3, List.getElem?_eq_getElem h3]
    rfl
def own_has (cs : List Int32) : Prop := (58 : Int32) ∈ cs
theorem own_b58 {c : Int32} (h : ¬ c < 0 ∧ ¬ (255 : Int32) < c) : c.toInt8.toInt32 = 58 ↔ c = 58 := by
  have e0 : (0 : Int32).toInt = 0 := rfl
  have e1 : (255 : Int32).toInt = 255 := rfl
  have e2 : (58 : Int32).toInt = 58 := rfl
  simp only [Int32.lt_iff_toInt_lt, e0, e1] at h
  rw [← Int32.toInt_inj, ← Int32.toInt_inj (x := c), e2]
  have a := c_i2b c
  omega
theorem own_hasb {cs : List Int32} (h : ∀ c ∈ cs, ¬ c < 0 ∧ ¬ (255 : Int32) < c) : (58 : Int32) ∈ cs.map (fun c => c.toInt8.toInt32) ↔ own_has cs := by
  rw [List.mem_map]
  constructor
  · rintro ⟨c, hc, e⟩
    show (58 : Int32) ∈ cs
    rw [← (own_b58 (h c hc)).mp e]; exact hc
  · intro q; exact ⟨58, q, by decide⟩
theorem own_sz16 {Z : State} {a0 : Array Value} (hw : ∀ d ∈ tables_1, d.before a0 Z = true) : ∀ p ∈ consts_1, ∃ text : String, (Jvm.Cond.stringLink p.1 p.2 text).before a0 Z = true ∧ (∀ c ∈ text.toList, c.toNat < 256) ∧ text.toList.length ≠ (16 : Int32).toNatClampNeg := fun p hp => by
  rcases List.mem_cons.mp hp with rfl | hp
  · exact ⟨_, hw _ (List.mem_of_getElem? (i := 235) rfl), by decide, by decide⟩
  rcases List.mem_cons.mp hp with rfl | hp
  · exact ⟨_, hw _ (List.mem_of_getElem? (i := 236) rfl), by decide, by decide⟩
  rcases List.mem_cons.mp hp with rfl | hp
  · exact ⟨_, hw _ (List.mem_of_getElem? (i := 43) rfl), by decide, by decide⟩
  cases List.mem_singleton.mp hp
  · exact ⟨_, hw _ (List.mem_of_getElem? (i := 19) rfl), by decide, by decide⟩
theorem own_pn66db85 : plainFor (⟨"java/lang/String", "coder", "()B"⟩ : MethodName) = true := by first | exact plainFor_of_name (by first | (simp [plainName, overriddenIn]; done) | decide +kernel) | decide +kernel
theorem own_d0_0 : decode jdk_42_method_152_code 0 = .ok (.getstatic 38, 3) := by decide +kernel
theorem own_d0_3 : decode jdk_42_method_152_code 3 = .ok (.ifCond .eq 10, 3) := by decide +kernel
theorem own_d0_6 : decode jdk_42_method_152_code 6 = .ok (.aload_n 0, 1) := by decide +kernel
theorem own_d0_7 : decode jdk_42_method_152_code 7 = .ok (.getfield 15, 3) := by decide +kernel
theorem own_d0_10 : decode jdk_42_method_152_code 10 = .ok (.goto 4, 3) := by decide +kernel
theorem own_d0_14 : decode jdk_42_method_152_code 14 = .ok (.ireturn, 1) := by decide +kernel
theorem own_ef_own_coder (m : MethodId) (x : Addr) : entryFrame m #[(.ref x)] 1 = mkF m 0 #[rv x] [] := by first | (simp [entryFrame, mkF, argsToLocals, Value.category]; done) | rfl
set_option maxRecDepth 65536 in
set_option maxHeartbeats 40000000 in
theorem own_coder (l : Launch) (Z : State) (a0 : Array Value) (H : own_Wld Z a0) {cw : List Jvm.Cond} (x : Addr) (t : Addr) (cs : List Int32) (h0 : Heap) (O0 : Ext Z.heap h0) (St_x : Own.Str Z h0 x t cs) :
    Own.Con l Z consts_1 (⟨"java/lang/String", "coder", "()B"⟩ : MethodName) jdk_42_method_152_code 1 (some .byte) cw ({ frames := 0, cells := 0, slots := 0, locals := 0 } : Room) #[(.ref x)] h0 (fun v h => Keep h0 h [] ∧ v = some (.int 0)) := by
  have hw := H.1
  have hW := fun (i : Nat) (w : Jvm.Cond) (e : tables_1[i]? = some w) => hw w (List.mem_of_getElem? e)
  have hCm := H.2.1
  have hSi := H.2.2.1
  have hEL := H.2.2.2
  have hWs : ∀ d ∈ StrChars.Road.words, d.before a0 Z = true := fun d hd => hw d (own_wbackV d hd)
  have hWl : ∀ d ∈ StrChars.Road.wordsLen, d.before a0 Z = true := fun d hd => hw d (own_wlenW d hd)
  have hSA : ∀ d ∈ Bundle.stringAtoms, d.before a0 Z = true := fun d hd => hw d (own_wSA d hd)
  refine Own.Con.of own_pn66db85 hEL O0 ?_
  intro p e s m below meth c T0 G vm0 hx hby hml hret hnm hG hR S0
  have hz : ∀ L : Array Slot, L.size = 1 → L.size = c.maxLocals := fun L q => q.trans hml.symm
  rw [own_ef_own_coder]
  show G T0 (mkF m 0 #[rv x] [])
  obtain ⟨zc, Szc, nzc⟩ := id hCm
  obtain ⟨kb_x, E_x, Fv_x, Fc_x, A_t, hr_x, hl_x⟩ := id St_x
  refine Own.Sit.getS hG S0 hx (host := "") (Or.inl (hW 68 _ rfl)) Via.refl (Szc.ext S0.old) rfl (hb hby own_d0_0) (fun T1 S1 => ?_)
  refine hG.st (fun _ q => XS.ifNo S1.here hx rfl (hb hby own_d0_3) rfl ((if0 _ _).trans (feq (nzc : ¬ (zc = (0 : Int32)))).1) (XS.aloadN S1.here hx rfl (hb hby own_d0_6) rfl rfl q)) ?_
  show G T1 (mkF m 7 #[rv x] [(.ref x)])
  refine Own.Sit.getF hG S1 hx (host := "") (Or.inl (hW 26 _ rfl)) Via.refl Fc_x rfl rfl (hb hby own_d0_7) (fun T2 S2 => ?_)
  refine hG.st (fun _ q => XS.goto S2.here hx rfl (pc0 := 10) (pc' := 14) rfl (hb hby own_d0_10) (by decide) (by decide) q) ?_
  show G T2 (mkF m 14 #[rv x] [(.int 0)])
  exact Own.Sit.retN hR S2 hx (t := .byte) hret (by simp) (hb hby own_d0_14) (by decide) (by decide) ⟨(Keep.refl _ _), rfl⟩
theorem own_pnba6bc1 : plainFor (⟨"java/lang/String", "isLatin1", "()Z"⟩ : MethodName) = true := by first | exact plainFor_of_name (by first | (simp [plainName, overriddenIn]; done) | decide +kernel) | decide +kernel
theorem own_d1_0 : decode jdk_42_method_154_code 0 = .ok (.getstatic 38, 3) := by decide +kernel
theorem own_d1_3 : decode jdk_42_method_154_code 3 = .ok (.ifCond .eq 14, 3) := by decide +kernel
theorem own_d1_6 : decode jdk_42_method_154_code 6 = .ok (.aload_n 0, 1) := by decide +kernel
theorem own_d1_7 : decode jdk_42_method_154_code 7 = .ok (.getfield 15, 3) := by decide +kernel
theorem own_d1_10 : decode jdk_42_method_154_code 10 = .ok (.ifCond .ne 7, 3) := by decide +kernel
theorem own_d1_13 : decode jdk_42_method_154_code 13 = .ok (.iconst 1, 1) := by decide +kernel
theorem own_d1_14 : decode jdk_42_method_154_code 14 = .ok (.goto 4, 3) := by decide +kernel
theorem own_d1_18 : decode jdk_42_method_154_code 18 = .ok (.ireturn, 1) := by decide +kernel
theorem own_ef_own_lat (m : MethodId) (x : Addr) : entryFrame m #[(.ref x)] 1 = mkF m 0 #[rv x] [] := by first | (simp [entryFrame, mkF, argsToLocals, Value.category]; done) | rfl
set_option maxRecDepth 65536 in
set_option maxHeartbeats 40000000 in
theorem own_lat (l : Launch) (Z : State) (a0 : Array Value) (H : own_Wld Z a0) {cw : List Jvm.Cond} (x : Addr) (t : Addr) (cs : List Int32) (h0 : Heap) (O0 : Ext Z.heap h0) (St_x : Own.Str Z h0 x t cs) :
    Own.Con l Z consts_1 (⟨"java/lang/String", "isLatin1", "()Z"⟩ : MethodName) jdk_42_method_154_code 1 (some .boolean) cw ({ frames := 0, cells := 0, slots := 0, locals := 0 } : Room) #[(.ref x)] h0 (fun v h => Keep h0 h [] ∧ v = some (.int 1)) := by
  have hw := H.1
  have hW := fun (i : Nat) (w : Jvm.Cond) (e : tables_1[i]? = some w) => hw w (List.mem_of_getElem? e)
  have hCm := H.2.1
  have hSi := H.2.2.1
  have hEL := H.2.2.2
  have hWs : ∀ d ∈ StrChars.Road.words, d.before a0 Z = true := fun d hd => hw d (own_wbackV d hd)
  have hWl : ∀ d ∈ StrChars.Road.wordsLen, d.before a0 Z = true := fun d hd => hw d (own_wlenW d hd)
  have hSA : ∀ d ∈ Bundle.stringAtoms, d.before a0 Z = true := fun d hd => hw d (own_wSA d hd)
  refine Own.Con.of own_pnba6bc1 hEL O0 ?_
  intro p e s m below meth c T0 G vm0 hx hby hml hret hnm hG hR S0
  have hz : ∀ L : Array Slot, L.size = 1 → L.size = c.maxLocals := fun L q => q.trans hml.symm
  rw [own_ef_own_lat]
  show G T0 (mkF m 0 #[rv x] [])
  obtain ⟨zc, Szc, nzc⟩ := id hCm
  obtain ⟨kb_x, E_x, Fv_x, Fc_x, A_t, hr_x, hl_x⟩ := id St_x
  refine Own.Sit.getS hG S0 hx (host := "") (Or.inl (hW 68 _ rfl)) Via.refl (Szc.ext S0.old) rfl (hb hby own_d1_0) (fun T3 S3 => ?_)
  refine hG.st (fun _ q => XS.ifNo S3.here hx rfl (hb hby own_d1_3) rfl ((if0 _ _).trans (feq (nzc : ¬ (zc = (0 : Int32)))).1) (XS.aloadN S3.here hx rfl (hb hby own_d1_6) rfl rfl q)) ?_
  show G T3 (mkF m 7 #[rv x] [(.ref x)])
  refine Own.Sit.getF hG S3 hx (host := "") (Or.inl (hW 26 _ rfl)) Via.refl Fc_x rfl rfl (hb hby own_d1_7) (fun T4 S4 => ?_)
  refine hG.st (fun _ q => XS.ifNo S4.here hx rfl (hb hby own_d1_10) rfl ((if0 _ _).trans (teq (by decide : (0 : Int32) = (0 : Int32))).2) (XS.iconst S4.here hx rfl (hb hby own_d1_13) (XS.goto S4.here hx rfl (pc0 := 14) (pc' := 18) rfl (hb hby own_d1_14) (by decide) (by decide) q))) ?_
  show G T4 (mkF m 18 #[rv x] [(.int 1)])
  exact Own.Sit.retN hR S4 hx (t := .boolean) hret (by simp) (hb hby own_d1_18) (by decide) (by decide) ⟨(Keep.refl _ _), rfl⟩
theorem own_pn45a176 : plainFor (⟨"java/lang/AbstractStringBuilder", "isLatin1", "()Z"⟩ : MethodName) = true := by first | exact plainFor_of_name (by first | (simp [plainName, overriddenIn]; done) | decide +kernel) | decide +kernel
theorem own_d2_0 : decode jdk_68_method_68_code 0 = .ok (.getstatic 18, 3) := by decide +kernel
theorem own_d2_3 : decode jdk_68_method_68_code 3 = .ok (.ifCond .eq 14, 3) := by decide +kernel
theorem own_d2_6 : decode jdk_68_method_68_code 6 = .ok (.aload_n 0, 1) := by decide +kernel
theorem own_d2_7 : decode jdk_68_method_68_code 7 = .ok (.getfield 22, 3) := by decide +kernel
theorem own_d2_10 : decode jdk_68_method_68_code 10 = .ok (.ifCond .ne 7, 3) := by decide +kernel
theorem own_d2_13 : decode jdk_68_method_68_code 13 = .ok (.iconst 1, 1) := by decide +kernel
theorem own_d2_14 : decode jdk_68_method_68_code 14 = .ok (.goto 4, 3) := by decide +kernel
theorem own_d2_18 : decode jdk_68_method_68_code 18 = .ok (.ireturn, 1) := by decide +kernel
theorem own_ef_own_alat (m : MethodId) (b : Addr) : entryFrame m #[(.ref b)] 1 = mkF m 0 #[rv b] [] := by first | (simp [entryFrame, mkF, argsToLocals, Value.category]; done) | rfl
set_option maxRecDepth 65536 in
set_option maxHeartbeats 40000000 in
theorem own_alat (l : Launch) (Z : State) (a0 : Array Value) (H : own_Wld Z a0) {cw : List Jvm.Cond} (b : Addr) (ar : Addr) (cs : List Int32) (h0 : Heap) (O0 : Ext Z.heap h0) {kv : ClassId} (SB : own_SB Z h0 b ar kv cs) :
    Own.Con l Z consts_1 (⟨"java/lang/AbstractStringBuilder", "isLatin1", "()Z"⟩ : MethodName) jdk_68_method_68_code 1 (some .boolean) cw ({ frames := 0, cells := 0, slots := 0, locals := 0 } : Room) #[(.ref b)] h0 (fun v h => Keep h0 h [] ∧ v = some (.int 1)) := by
  have hw := H.1
  have hW := fun (i : Nat) (w : Jvm.Cond) (e : tables_1[i]? = some w) => hw w (List.mem_of_getElem? e)
  have hCm := H.2.1
  have hSi := H.2.2.1
  have hEL := H.2.2.2
  have hWs : ∀ d ∈ StrChars.Road.words, d.before a0 Z = true := fun d hd => hw d (own_wbackV d hd)
  have hWl : ∀ d ∈ StrChars.Road.wordsLen, d.before a0 Z = true := fun d hd => hw d (own_wlenW d hd)
  have hSA : ∀ d ∈ Bundle.stringAtoms, d.before a0 Z = true := fun d hd => hw d (own_wSA d hd)
  refine Own.Con.of own_pn45a176 hEL O0 ?_
  intro p e s m below meth c T0 G vm0 hx hby hml hret hnm hG hR S0
  have hz : ∀ L : Array Slot, L.size = 1 → L.size = c.maxLocals := fun L q => q.trans hml.symm
  rw [own_ef_own_alat]
  show G T0 (mkF m 0 #[rv b] [])
  obtain ⟨zc, Szc, nzc⟩ := id hCm
  obtain ⟨E_b5, Fv_b5, Fc_b5, Fn_b5, A_r5⟩ := id SB
  refine Own.Sit.getS hG S0 hx (host := "") (Or.inl (hW 91 _ rfl)) Via.refl (Szc.ext S0.old) rfl (hb hby own_d2_0) (fun T6 S6 => ?_)
  refine hG.st (fun _ q => XS.ifNo S6.here hx rfl (hb hby own_d2_3) rfl ((if0 _ _).trans (feq (nzc : ¬ (zc = (0 : Int32)))).1) (XS.aloadN S6.here hx rfl (hb hby own_d2_6) rfl rfl q)) ?_
  show G T6 (mkF m 7 #[rv b] [(.ref b)])
  refine Own.Sit.getF hG S6 hx (host := "") (Or.inl (hW 94 _ rfl)) Via.refl Fc_b5 rfl rfl (hb hby own_d2_7) (fun T7 S7 => ?_)
  refine hG.st (fun _ q => XS.ifNo S7.here hx rfl (hb hby own_d2_10) rfl ((if0 _ _).trans (teq (by decide : (0 : Int32) = (0 : Int32))).2) (XS.iconst S7.here hx rfl (hb hby own_d2_13) (XS.goto S7.here hx rfl (pc0 := 14) (pc' := 18) rfl (hb hby own_d2_14) (by decide) (by decide) q))) ?_
  show G T7 (mkF m 18 #[rv b] [(.int 1)])
  exact Own.Sit.retN hR S7 hx (t := .boolean) hret (by simp) (hb hby own_d2_18) (by decide) (by decide) ⟨(Keep.refl _ _), rfl⟩
theorem own_pn9e923b : plainFor (⟨"java/lang/AbstractStringBuilder", "getValue", "()[B"⟩ : MethodName) = true := by first | exact plainFor_of_name (by first | (simp [plainName, overriddenIn]; done) | decide +kernel) | decide +kernel
theorem own_d3_0 : decode jdk_68_method_64_code 0 = .ok (.aload_n 0, 1) := by decide +kernel
theorem own_d3_1 : decode jdk_68_method_64_code 1 = .ok (.getfield 15, 3) := by decide +kernel
theorem own_d3_4 : decode jdk_68_method_64_code 4 = .ok (.areturn, 1) := by decide +kernel
theorem own_ef_own_gv (m : MethodId) (b : Addr) : entryFrame m #[(.ref b)] 1 = mkF m 0 #[rv b] [] := by first | (simp [entryFrame, mkF, argsToLocals, Value.category]; done) | rfl
set_option maxRecDepth 65536 in
set_option maxHeartbeats 40000000 in
theorem own_gv (l : Launch) (Z : State) (a0 : Array Value) (H : own_Wld Z a0) {cw : List Jvm.Cond} (b : Addr) (ar : Addr) (cs : List Int32) (h0 : Heap) (O0 : Ext Z.heap h0) {kv : ClassId} (SB : own_SB Z h0 b ar kv cs) :
    Own.Con l Z consts_1 (⟨"java/lang/AbstractStringBuilder", "getValue", "()[B"⟩ : MethodName) jdk_68_method_64_code 1 (some (.array .byte)) cw ({ frames := 0, cells := 0, slots := 0, locals := 0 } : Room) #[(.ref b)] h0 (fun v h => Keep h0 h [] ∧ v = some (.ref ar)) := by
  have hw := H.1
  have hW := fun (i : Nat) (w : Jvm.Cond) (e : tables_1[i]? = some w) => hw w (List.mem_of_getElem? e)
  have hCm := H.2.1
  have hSi := H.2.2.1
  have hEL := H.2.2.2
  have hWs : ∀ d ∈ StrChars.Road.words, d.before a0 Z = true := fun d hd => hw d (own_wbackV d hd)
  have hWl : ∀ d ∈ StrChars.Road.wordsLen, d.before a0 Z = true := fun d hd => hw d (own_wlenW d hd)
  have hSA : ∀ d ∈ Bundle.stringAtoms, d.before a0 Z = true := fun d hd => hw d (own_wSA d hd)
  refine Own.Con.of own_pn9e923b hEL O0 ?_
  intro p e s m below meth c T0 G vm0 hx hby hml hret hnm hG hR S0
  have hz : ∀ L : Array Slot, L.size = 1 → L.size = c.maxLocals := fun L q => q.trans hml.symm
  rw [own_ef_own_gv]
  show G T0 (mkF m 0 #[rv b] [])
  obtain ⟨E_b8, Fv_b8, Fc_b8, Fn_b8, A_r8⟩ := id SB
  refine hG.st (fun _ q => XS.aloadN S0.here hx rfl (hb hby own_d3_0) rfl rfl q) ?_
  show G T0 (mkF m 1 #[rv b] [(.ref b)])
  refine Own.Sit.getF hG S0 hx (host := "") (Or.inl (hW 92 _ rfl)) Via.refl Fv_b8 rfl rfl (hb hby own_d3_1) (fun T9 S9 => ?_)
  show G T9 (mkF m 4 #[rv b] [(.ref ar)])
  exact Own.Sit.retO hR S9 hx hret rfl (Or.inr (Or.inr (Or.inr (Or.inr ⟨rfl, rfl, rfl⟩)))) (hb hby own_d3_4) (by decide) (by decide) ⟨(Keep.refl _ _), rfl⟩
theorem own_pn887cf9 : plainFor (⟨"java/lang/AbstractStringBuilder", "length", "()I"⟩ : MethodName) = true := by first | exact plainFor_of_name (by first | (simp [plainName, overriddenIn]; done) | decide +kernel) | decide +kernel
theorem own_d4_0 : decode jdk_68_method_6_code 0 = .ok (.aload_n 0, 1) := by decide +kernel
theorem own_d4_1 : decode jdk_68_method_6_code 1 = .ok (.getfield 79, 3) := by decide +kernel
theorem own_d4_4 : decode jdk_68_method_6_code 4 = .ok (.ireturn, 1) := by decide +kernel
theorem own_ef_own_aln (m : MethodId) (b : Addr) : entryFrame m #[(.ref b)] 1 = mkF m 0 #[rv b] [] := by first | (simp [entryFrame, mkF, argsToLocals, Value.category]; done) | rfl
set_option maxRecDepth 65536 in
set_option maxHeartbeats 40000000 in
theorem own_aln (l : Launch) (Z : State) (a0 : Array Value) (H : own_Wld Z a0) {cw : List Jvm.Cond} (b : Addr) (ar : Addr) (cs : List Int32) (h0 : Heap) (O0 : Ext Z.heap h0) {kv : ClassId} (SB : own_SB Z h0 b ar kv cs) :
    Own.Con l Z consts_1 (⟨"java/lang/AbstractStringBuilder", "length", "()I"⟩ : MethodName) jdk_68_method_6_code 1 (some .int) cw ({ frames := 0, cells := 0, slots := 0, locals := 0 } : Room) #[(.ref b)] h0 (fun v h => Keep h0 h [] ∧ v = some (.int (Int32.ofNat cs.length))) := by
  have hw := H.1
  have hW := fun (i : Nat) (w : Jvm.Cond) (e : tables_1[i]? = some w) => hw w (List.mem_of_getElem? e)
  have hCm := H.2.1
  have hSi := H.2.2.1
  have hEL := H.2.2.2
  have hWs : ∀ d ∈ StrChars.Road.words, d.before a0 Z = true := fun d hd => hw d (own_wbackV d hd)
  have hWl : ∀ d ∈ StrChars.Road.wordsLen, d.before a0 Z = true := fun d hd => hw d (own_wlenW d hd)
  have hSA : ∀ d ∈ Bundle.stringAtoms, d.before a0 Z = true := fun d hd => hw d (own_wSA d hd)
  refine Own.Con.of own_pn887cf9 hEL O0 ?_
  intro p e s m below meth c T0 G vm0 hx hby hml hret hnm hG hR S0
  have hz : ∀ L : Array Slot, L.size = 1 → L.size = c.maxLocals := fun L q => q.trans hml.symm
  rw [own_ef_own_aln]
  show G T0 (mkF m 0 #[rv b] [])
  obtain ⟨E_b10, Fv_b10, Fc_b10, Fn_b10, A_r10⟩ := id SB
  refine hG.st (fun _ q => XS.aloadN S0.here hx rfl (hb hby own_d4_0) rfl rfl q) ?_
  show G T0 (mkF m 1 #[rv b] [(.ref b)])
  refine Own.Sit.getF hG S0 hx (host := "") (Or.inl (hW 111 _ rfl)) Via.refl Fn_b10 rfl rfl (hb hby own_d4_1) (fun T11 S11 => ?_)
  show G T11 (mkF m 4 #[rv b] [(.int (Int32.ofNat cs.length))])
  exact Own.Sit.retO hR S11 hx hret rfl (Or.inl ⟨rfl, Or.inl rfl, _, rfl⟩) (hb hby own_d4_4) (by decide) (by decide) ⟨(Keep.refl _ _), rfl⟩
theorem own_pnd94ee7 : plainFor (⟨"java/lang/StringBuilder", "length", "()I"⟩ : MethodName) = true := by first | exact plainFor_of_name (by first | (simp [plainName, overriddenIn]; done) | decide +kernel) | decide +kernel
theorem own_pd368a4b : parseMethodDescriptor "()I" = some ⟨[], some .int⟩ := by decide +kernel
theorem own_d5_0 : decode jdk_67_method_93_code 0 = .ok (.aload_n 0, 1) := by decide +kernel
theorem own_d5_1 : decode jdk_67_method_93_code 1 = .ok (.invokespecial 343, 3) := by decide +kernel
theorem own_d5_4 : decode jdk_67_method_93_code 4 = .ok (.ireturn, 1) := by decide +kernel
theorem own_ef_own_bln (m : MethodId) (b : Addr) : entryFrame m #[(.ref b)] 1 = mkF m 0 #[rv b] [] := by first | (simp [entryFrame, mkF, argsToLocals, Value.category]; done) | rfl
set_option maxRecDepth 65536 in
set_option maxHeartbeats 40000000 in
theorem own_bln (l : Launch) (Z : State) (a0 : Array Value) (H : own_Wld Z a0) {cw : List Jvm.Cond} (b : Addr) (ar : Addr) (cs : List Int32) (h0 : Heap) (O0 : Ext Z.heap h0) {kv : ClassId} (SB : own_SB Z h0 b ar kv cs) :
    Own.Con l Z consts_1 (⟨"java/lang/StringBuilder", "length", "()I"⟩ : MethodName) jdk_67_method_93_code 1 (some .int) cw ({ frames := 1, cells := 0, slots := 0, locals := 12 } : Room) #[(.ref b)] h0 (fun v h => Keep h0 h [] ∧ v = some (.int (Int32.ofNat cs.length))) := by
  have hw := H.1
  have hW := fun (i : Nat) (w : Jvm.Cond) (e : tables_1[i]? = some w) => hw w (List.mem_of_getElem? e)
  have hCm := H.2.1
  have hSi := H.2.2.1
  have hEL := H.2.2.2
  have hWs : ∀ d ∈ StrChars.Road.words, d.before a0 Z = true := fun d hd => hw d (own_wbackV d hd)
  have hWl : ∀ d ∈ StrChars.Road.wordsLen, d.before a0 Z = true := fun d hd => hw d (own_wlenW d hd)
  have hSA : ∀ d ∈ Bundle.stringAtoms, d.before a0 Z = true := fun d hd => hw d (own_wSA d hd)
  refine Own.Con.of own_pnd94ee7 hEL O0 ?_
  intro p e s m below meth c T0 G vm0 hx hby hml hret hnm hG hR S0
  have hz : ∀ L : Array Slot, L.size = 1 → L.size = c.maxLocals := fun L q => q.trans hml.symm
  rw [own_ef_own_bln]
  show G T0 (mkF m 0 #[rv b] [])
  obtain ⟨E_b12, Fv_b12, Fc_b12, Fn_b12, A_r12⟩ := id SB
  refine hG.st (fun _ q => XS.aloadN S0.here hx rfl (hb hby own_d5_0) rfl rfl q) ?_
  show G T0 (mkF m 1 #[rv b] [(.ref b)])
  have SB13 : own_SB Z h0 b ar kv cs := ⟨E_b12, Fv_b12, Fc_b12, Fn_b12, A_r12⟩
  refine Own.Sit.callU hG S0 hx hEL (as := []) (hW 183 _ rfl) (Own.same_of (by decide) (hW 179 _ rfl) (hW 116 _ rfl) rfl) (hW 179 _ rfl) (hW 103 _ rfl) (by decide) (hW 88 _ rfl) (hW 184 _ rfl) E_b12 (own_aln l Z a0 H b ar cs h0 S0.old SB13) own_pd368a4b rfl rfl (hz _ rfl) (rest := []) rfl (W := 0) (Own.hw0 rfl rfl) (hb hby own_d5_1) (by decide) (by decide) (by decide) (by decide) (fun v14 vm14 T14 h14 S14 C14 q14 => ?_)
  obtain ⟨K14, rfl⟩ := q14
  have J14 : Own.Stp Z consts_1 vm0 h0 vm14 h14 [] := ⟨K14, C14⟩
  show G T14 (mkF m 4 #[rv b] [(.int (Int32.ofNat cs.length))])
  exact Own.Sit.retO hR S14 hx hret rfl (Or.inl ⟨rfl, Or.inl rfl, _, rfl⟩) (hb hby own_d5_4) (by decide) (by decide) ⟨J14.1, rfl⟩
theorem own_pn5aca59 : plainFor (⟨"java/lang/AbstractStringBuilder", "ensureCapacityInternal", "(I)V"⟩ : MethodName) = true := by first | exact plainFor_of_name (by first | (simp [plainName, overriddenIn]; done) | decide +kernel) | decide +kernel
theorem own_d6_0 : decode jdk_68_method_9_code 0 = .ok (.aload_n 0, 1) := by decide +kernel
theorem own_d6_1 : decode jdk_68_method_9_code 1 = .ok (.getfield 15, 3) := by decide +kernel
theorem own_d6_4 : decode jdk_68_method_9_code 4 = .ok (.arraylength, 1) := by decide +kernel
theorem own_d6_5 : decode jdk_68_method_9_code 5 = .ok (.aload_n 0, 1) := by decide +kernel
theorem own_d6_6 : decode jdk_68_method_9_code 6 = .ok (.getfield 22, 3) := by decide +kernel
theorem own_d6_9 : decode jdk_68_method_9_code 9 = .ok (.ishr, 1) := by decide +kernel
theorem own_d6_10 : decode jdk_68_method_9_code 10 = .ok (.istore_n 2, 1) := by decide +kernel
theorem own_d6_11 : decode jdk_68_method_9_code 11 = .ok (.iload_n 1, 1) := by decide +kernel
theorem own_d6_12 : decode jdk_68_method_9_code 12 = .ok (.iload_n 2, 1) := by decide +kernel
theorem own_d6_13 : decode jdk_68_method_9_code 13 = .ok (.isub, 1) := by decide +kernel
theorem own_d6_14 : decode jdk_68_method_9_code 14 = .ok (.ifCond .le 24, 3) := by decide +kernel
theorem own_d6_38 : decode jdk_68_method_9_code 38 = .ok (.return_, 1) := by decide +kernel
theorem own_ef_own_ens (m : MethodId) (b : Addr) (n : Int32) : entryFrame m #[(.ref b), (.int n)] 3 = mkF m 0 #[rv b, iv n, .unset] [] := by first | (simp [entryFrame, mkF, argsToLocals, Value.category]; done) | rfl
set_option maxRecDepth 65536 in
set_option maxHeartbeats 40000000 in
theorem own_ens (l : Launch) (Z : State) (a0 : Array Value) (H : own_Wld Z a0) {cw : List Jvm.Cond} (b : Addr) (n : Int32) (ar : Addr) (cs : List Int32) (h0 : Heap) (O0 : Ext Z.heap h0) {kv : ClassId} (SB : own_SB Z h0 b ar kv cs) (hn : ¬ (0 : Int32) < n - ((16 : Int32) >>> ((0 : Int32) &&& 31))) :
    Own.Con l Z consts_1 (⟨"java/lang/AbstractStringBuilder", "ensureCapacityInternal", "(I)V"⟩ : MethodName) jdk_68_method_9_code 3 none cw ({ frames := 0, cells := 0, slots := 0, locals := 0 } : Room) #[(.ref b), (.int n)] h0 (fun v h => Keep h0 h [] ∧ v = none) := by
  have hw := H.1
  have hW := fun (i : Nat) (w : Jvm.Cond) (e : tables_1[i]? = some w) => hw w (List.mem_of_getElem? e)
  have hCm := H.2.1
  have hSi := H.2.2.1
  have hEL := H.2.2.2
  have hWs : ∀ d ∈ StrChars.Road.words, d.before a0 Z = true := fun d hd => hw d (own_wbackV d hd)
  have hWl : ∀ d ∈ StrChars.Road.wordsLen, d.before a0 Z = true := fun d hd => hw d (own_wlenW d hd)
  have hSA : ∀ d ∈ Bundle.stringAtoms, d.before a0 Z = true := fun d hd => hw d (own_wSA d hd)
  refine Own.Con.of own_pn5aca59 hEL O0 ?_
  intro p e s m below meth c T0 G vm0 hx hby hml hret hnm hG hR S0
  have hz : ∀ L : Array Slot, L.size = 3 → L.size = c.maxLocals := fun L q => q.trans hml.symm
  rw [own_ef_own_ens]
  show G T0 (mkF m 0 #[rv b, iv n, .unset] [])
  obtain ⟨E_b15, Fv_b15, Fc_b15, Fn_b15, A_r15⟩ := id SB
  refine hG.st (fun _ q => XS.aloadN S0.here hx rfl (hb hby own_d6_0) rfl rfl q) ?_
  show G T0 (mkF m 1 #[rv b, iv n, .unset] [(.ref b)])
  refine Own.Sit.getF hG S0 hx (host := "") (Or.inl (hW 92 _ rfl)) Via.refl Fv_b15 rfl rfl (hb hby own_d6_1) (fun T16 S16 => ?_)
  show G T16 (mkF m 4 #[rv b, iv n, .unset] [(.ref ar)])
  refine Own.Sit.arraylength hG S16 hx A_r15 rfl rfl (hb hby own_d6_4) ?_
  show G T16 (mkF m 5 #[rv b, iv n, .unset] [(.int 16)])
  refine hG.st (fun _ q => XS.aloadN S16.here hx rfl (hb hby own_d6_5) rfl rfl q) ?_
  show G T16 (mkF m 6 #[rv b, iv n, .unset] [(.ref b), (.int 16)])
  refine Own.Sit.getF hG S16 hx (host := "") (Or.inl (hW 94 _ rfl)) Via.refl Fc_b15 rfl rfl (hb hby own_d6_6) (fun T17 S17 => ?_)
  refine hG.st (fun _ q => XS.ishr S17.here hx rfl (hb hby own_d6_9) rfl (XS.istoreN S17.here hx rfl (hb hby own_d6_10) rfl (l' := #[rv b, iv n, iv ((16 : Int32) >>> ((0 : Int32) &&& 31))]) rfl (XS.iloadN S17.here hx rfl (hb hby own_d6_11) rfl (XS.iloadN S17.here hx rfl (hb hby own_d6_12) rfl (XS.isub S17.here hx rfl (hb hby own_d6_13) rfl (XS.ifYes S17.here hx rfl (pc0 := 14) (pc' := 38) rfl (hb hby own_d6_14) rfl ((if0 _ _).trans (flt (hn : ¬ ((0 : Int32) < (n - ((16 : Int32) >>> ((0 : Int32) &&& 31)))))).2.2.2) (by decide) (by decide) q)))))) ?_
  show G T17 (mkF m 38 #[rv b, iv n, iv ((16 : Int32) >>> ((0 : Int32) &&& 31))] [])
  exact Own.Sit.ret0 hR S17 hx hret (hb hby own_d6_38) (by decide) (by decide) ⟨(Keep.refl _ _), rfl⟩
theorem own_pna8962c : plainFor (⟨"java/lang/AbstractStringBuilder", "inflateIfNeededFor", "(Ljava/lang/String;)V"⟩ : MethodName) = true := by first | exact plainFor_of_name (by first | (simp [plainName, overriddenIn]; done) | decide +kernel) | decide +kernel
theorem own_pdef5c10 : parseMethodDescriptor "()B" = some ⟨[], some .byte⟩ := by decide +kernel
theorem own_d7_0 : decode jdk_68_method_71_code 0 = .ok (.getstatic 18, 3) := by decide +kernel
theorem own_d7_3 : decode jdk_68_method_71_code 3 = .ok (.ifCond .eq 18, 3) := by decide +kernel
theorem own_d7_6 : decode jdk_68_method_71_code 6 = .ok (.aload_n 0, 1) := by decide +kernel
theorem own_d7_7 : decode jdk_68_method_71_code 7 = .ok (.getfield 22, 3) := by decide +kernel
theorem own_d7_10 : decode jdk_68_method_71_code 10 = .ok (.aload_n 1, 1) := by decide +kernel
theorem own_d7_11 : decode jdk_68_method_71_code 11 = .ok (.invokevirtual 40, 3) := by decide +kernel
theorem own_d7_14 : decode jdk_68_method_71_code 14 = .ok (.if_icmp .eq 7, 3) := by decide +kernel
theorem own_d7_21 : decode jdk_68_method_71_code 21 = .ok (.return_, 1) := by decide +kernel
theorem own_ef_own_inf (m : MethodId) (b : Addr) (x : Addr) : entryFrame m #[(.ref b), (.ref x)] 2 = mkF m 0 #[rv b, rv x] [] := by first | (simp [entryFrame, mkF, argsToLocals, Value.category]; done) | rfl
set_option maxRecDepth 65536 in
set_option maxHeartbeats 40000000 in
theorem own_inf (l : Launch) (Z : State) (a0 : Array Value) (H : own_Wld Z a0) {cw : List Jvm.Cond} (b : Addr) (x : Addr) (ar : Addr) (cs : List Int32) (t : Addr) (ds : List Int32) (h0 : Heap) (O0 : Ext Z.heap h0) {kv : ClassId} (SB : own_SB Z h0 b ar kv cs) (St_x : Own.Str Z h0 x t ds) :
    Own.Con l Z consts_1 (⟨"java/lang/AbstractStringBuilder", "inflateIfNeededFor", "(Ljava/lang/String;)V"⟩ : MethodName) jdk_68_method_71_code 2 none cw ({ frames := 1, cells := 0, slots := 0, locals := 13 } : Room) #[(.ref b), (.ref x)] h0 (fun v h => Keep h0 h [] ∧ v = none) := by
  have hw := H.1
  have hW := fun (i : Nat) (w : Jvm.Cond) (e : tables_1[i]? = some w) => hw w (List.mem_of_getElem? e)
  have hCm := H.2.1
  have hSi := H.2.2.1
  have hEL := H.2.2.2
  have hWs : ∀ d ∈ StrChars.Road.words, d.before a0 Z = true := fun d hd => hw d (own_wbackV d hd)
  have hWl : ∀ d ∈ StrChars.Road.wordsLen, d.before a0 Z = true := fun d hd => hw d (own_wlenW d hd)
  have hSA : ∀ d ∈ Bundle.stringAtoms, d.before a0 Z = true := fun d hd => hw d (own_wSA d hd)
  refine Own.Con.of own_pna8962c hEL O0 ?_
  intro p e s m below meth c T0 G vm0 hx hby hml hret hnm hG hR S0
  have hz : ∀ L : Array Slot, L.size = 2 → L.size = c.maxLocals := fun L q => q.trans hml.symm
  rw [own_ef_own_inf]
  show G T0 (mkF m 0 #[rv b, rv x] [])
  obtain ⟨zc, Szc, nzc⟩ := id hCm
  obtain ⟨E_b18, Fv_b18, Fc_b18, Fn_b18, A_r18⟩ := id SB
  refine Own.Sit.getS hG S0 hx (host := "") (Or.inl (hW 91 _ rfl)) Via.refl (Szc.ext S0.old) rfl (hb hby own_d7_0) (fun T19 S19 => ?_)
  refine hG.st (fun _ q => XS.ifNo S19.here hx rfl (hb hby own_d7_3) rfl ((if0 _ _).trans (feq (nzc : ¬ (zc = (0 : Int32)))).1) (XS.aloadN S19.here hx rfl (hb hby own_d7_6) rfl rfl q)) ?_
  show G T19 (mkF m 7 #[rv b, rv x] [(.ref b)])
  refine Own.Sit.getF hG S19 hx (host := "") (Or.inl (hW 94 _ rfl)) Via.refl Fc_b18 rfl rfl (hb hby own_d7_7) (fun T20 S20 => ?_)
  refine hG.st (fun _ q => XS.aloadN S20.here hx rfl (hb hby own_d7_10) rfl rfl q) ?_
  show G T20 (mkF m 11 #[rv b, rv x] [(.ref x), (.int 0)])
  refine Own.Sit.callV hG S20 hx hEL (as := []) (hW 128 _ rfl) (hW 64 _ rfl) (hW 66 _ rfl) (hW 65 _ rfl) (hW 7 _ rfl) (hW 67 _ rfl) (by decide) St_x.exa (own_coder l Z a0 H x t ds h0 S20.old St_x) own_pdef5c10 rfl rfl (hz _ rfl) (rest := [(.int 0)]) rfl (W := 1) (Own.hw0 rfl rfl) (hb hby own_d7_11) (by decide) (by decide) (by decide) (by decide) (fun v21 vm21 T21 h21 S21 C21 q21 => ?_)
  obtain ⟨K21, rfl⟩ := q21
  have J21 : Own.Stp Z consts_1 vm0 h0 vm21 h21 [] := ⟨K21, C21⟩
  refine hG.st (fun _ q => XS.icmpYes S21.here hx rfl (pc0 := 14) (pc' := 21) rfl (hb hby own_d7_14) rfl (teq (by decide : (0 : Int32) = (0 : Int32))).1 (by decide) (by decide) q) ?_
  show G T21 (mkF m 21 #[rv b, rv x] [])
  exact Own.Sit.ret0 hR S21 hx hret (hb hby own_d7_21) (by decide) (by decide) ⟨J21.1, rfl⟩
theorem own_pne92077 : plainFor (⟨"java/lang/String", "getBytes", "([BIB)V"⟩ : MethodName) = true := by first | exact plainFor_of_name (by first | (simp [plainName, overriddenIn]; done) | decide +kernel) | decide +kernel
theorem own_d8_0 : decode jdk_42_method_147_code 0 = .ok (.aload_n 0, 1) := by decide +kernel
theorem own_d8_1 : decode jdk_42_method_147_code 1 = .ok (.invokevirtual 335, 3) := by decide +kernel
theorem own_d8_4 : decode jdk_42_method_147_code 4 = .ok (.iload_n 3, 1) := by decide +kernel
theorem own_d8_5 : decode jdk_42_method_147_code 5 = .ok (.if_icmp .ne 23, 3) := by decide +kernel
theorem own_d8_8 : decode jdk_42_method_147_code 8 = .ok (.aload_n 0, 1) := by decide +kernel
theorem own_d8_9 : decode jdk_42_method_147_code 9 = .ok (.getfield 9, 3) := by decide +kernel
theorem own_d8_12 : decode jdk_42_method_147_code 12 = .ok (.iconst 0, 1) := by decide +kernel
theorem own_d8_13 : decode jdk_42_method_147_code 13 = .ok (.aload_n 1, 1) := by decide +kernel
theorem own_d8_14 : decode jdk_42_method_147_code 14 = .ok (.iload_n 2, 1) := by decide +kernel
theorem own_d8_15 : decode jdk_42_method_147_code 15 = .ok (.iload_n 3, 1) := by decide +kernel
theorem own_d8_16 : decode jdk_42_method_147_code 16 = .ok (.ishl, 1) := by decide +kernel
theorem own_d8_17 : decode jdk_42_method_147_code 17 = .ok (.aload_n 0, 1) := by decide +kernel
theorem own_d8_18 : decode jdk_42_method_147_code 18 = .ok (.getfield 9, 3) := by decide +kernel
theorem own_d8_21 : decode jdk_42_method_147_code 21 = .ok (.arraylength, 1) := by decide +kernel
theorem own_d8_22 : decode jdk_42_method_147_code 22 = .ok (.invokestatic 212, 3) := by decide +kernel
theorem own_d8_25 : decode jdk_42_method_147_code 25 = .ok (.goto 18, 3) := by decide +kernel
theorem own_d8_43 : decode jdk_42_method_147_code 43 = .ok (.return_, 1) := by decide +kernel
theorem own_ef_own_gb (m : MethodId) (cs : List Int32) (x : Addr) (ar : Addr) : entryFrame m #[(.ref x), (.ref ar), (.int (Int32.ofNat cs.length)), (.int 0)] 4 = mkF m 0 #[rv x, rv ar, iv (Int32.ofNat cs.length), iv 0] [] := by first | (simp [entryFrame, mkF, argsToLocals, Value.category]; done) | rfl
set_option maxRecDepth 65536 in
set_option maxHeartbeats 40000000 in
theorem own_gb (l : Launch) (Z : State) (a0 : Array Value) (H : own_Wld Z a0) {cw : List Jvm.Cond} (x : Addr) (ar : Addr) (t : Addr) (cs ds : List Int32) (h0 : Heap) (O0 : Ext Z.heap h0) (St_x : Own.Str Z h0 x t ds) {kv : ClassId} (A_r : Arv Z h0 ar kv .byte (16 : Int32) (own_buf cs) (.int 0)) (hsum : cs.length + ds.length ≤ 16) (g_r : Z.heap.size ≤ ar) :
    Own.Con l Z consts_1 (⟨"java/lang/String", "getBytes", "([BIB)V"⟩ : MethodName) jdk_42_method_147_code 4 none cw ({ frames := 1, cells := 0, slots := 0, locals := 40 } : Room) #[(.ref x), (.ref ar), (.int (Int32.ofNat cs.length)), (.int 0)] h0 (fun v h => Keep h0 h [ar] ∧ v = none ∧ Arv Z h ar kv .byte (16 : Int32) (own_buf (cs ++ ds)) (.int 0)) := by
  have hw := H.1
  have hW := fun (i : Nat) (w : Jvm.Cond) (e : tables_1[i]? = some w) => hw w (List.mem_of_getElem? e)
  have hCm := H.2.1
  have hSi := H.2.2.1
  have hEL := H.2.2.2
  have hWs : ∀ d ∈ StrChars.Road.words, d.before a0 Z = true := fun d hd => hw d (own_wbackV d hd)
  have hWl : ∀ d ∈ StrChars.Road.wordsLen, d.before a0 Z = true := fun d hd => hw d (own_wlenW d hd)
  have hSA : ∀ d ∈ Bundle.stringAtoms, d.before a0 Z = true := fun d hd => hw d (own_wSA d hd)
  refine Own.Con.of own_pne92077 hEL O0 ?_
  intro p e s m below meth c T0 G vm0 hx hby hml hret hnm hG hR S0
  have hz : ∀ L : Array Slot, L.size = 4 → L.size = c.maxLocals := fun L q => q.trans hml.symm
  rw [own_ef_own_gb]
  show G T0 (mkF m 0 #[rv x, rv ar, iv (Int32.ofNat cs.length), iv 0] [])
  obtain ⟨kb_x, E_x, Fv_x, Fc_x, A_t, hr_x, hl_x⟩ := id St_x
  refine hG.st (fun _ q => XS.aloadN S0.here hx rfl (hb hby own_d8_0) rfl rfl q) ?_
  show G T0 (mkF m 1 #[rv x, rv ar, iv (Int32.ofNat cs.length), iv 0] [(.ref x)])
  refine Own.Sit.callV hG S0 hx hEL (as := []) (hW 63 _ rfl) (hW 64 _ rfl) (hW 66 _ rfl) (hW 65 _ rfl) (hW 7 _ rfl) (hW 67 _ rfl) (by decide) E_x (own_coder l Z a0 H x t ds h0 S0.old St_x) own_pdef5c10 rfl rfl (hz _ rfl) (rest := []) rfl (W := 0) (Own.hw0 rfl rfl) (hb hby own_d8_1) (by decide) (by decide) (by decide) (by decide) (fun v22 vm22 T22 h22 S22 C22 q22 => ?_)
  obtain ⟨K22, rfl⟩ := q22
  have J22 : Own.Stp Z consts_1 vm0 h0 vm22 h22 [] := ⟨K22, C22⟩
  refine hG.st (fun _ q => XS.iloadN S22.here hx rfl (hb hby own_d8_4) rfl (XS.icmpNo S22.here hx rfl (hb hby own_d8_5) rfl (teq (by decide : (0 : Int32) = (0 : Int32))).2 (XS.aloadN S22.here hx rfl (hb hby own_d8_8) rfl rfl q))) ?_
  show G T22 (mkF m 9 #[rv x, rv ar, iv (Int32.ofNat cs.length), iv 0] [(.ref x)])
  have F23 := J22.fld Fv_x nin0
  refine Own.Sit.getF hG S22 hx (host := "") (Or.inl (hW 25 _ rfl)) Via.refl F23 rfl rfl (hb hby own_d8_9) (fun T24 S24 => ?_)
  refine hG.st (fun _ q => XS.iconst S24.here hx rfl (hb hby own_d8_12) (XS.aloadN S24.here hx rfl (hb hby own_d8_13) rfl rfl (XS.iloadN S24.here hx rfl (hb hby own_d8_14) rfl (XS.iloadN S24.here hx rfl (hb hby own_d8_15) rfl (XS.ishl S24.here hx rfl (hb hby own_d8_16) rfl (XS.aloadN S24.here hx rfl (hb hby own_d8_17) rfl rfl q)))))) ?_
  show G T24 (mkF m 18 #[rv x, rv ar, iv (Int32.ofNat cs.length), iv 0] [(.ref x), (.int ((Int32.ofNat cs.length) <<< ((0 : Int32) &&& 31))), (.ref ar), (.int 0), (.ref t)])
  refine Own.Sit.getF hG S24 hx (host := "") (Or.inl (hW 25 _ rfl)) Via.refl F23 rfl rfl (hb hby own_d8_18) (fun T25 S25 => ?_)
  have V26 := J22.arv A_t nin0
  show G T25 (mkF m 21 #[rv x, rv ar, iv (Int32.ofNat cs.length), iv 0] [(.ref t), (.int ((Int32.ofNat cs.length) <<< ((0 : Int32) &&& 31))), (.ref ar), (.int 0), (.ref t)])
  refine Own.Sit.arraylength hG S25 hx V26 rfl rfl (hb hby own_d8_21) ?_
  show G T25 (mkF m 22 #[rv x, rv ar, iv (Int32.ofNat cs.length), iv 0] [(.int (Int32.ofNat ds.length)), (.int ((Int32.ofNat cs.length) <<< ((0 : Int32) &&& 31))), (.ref ar), (.int 0), (.ref t)])
  have V27 := J22.arv A_r nin0
  refine Own.Sit.cpA hG S25 hx (hW 134 _ rfl) (hW 137 _ rfl) (hW 135 _ rfl) (hW 136 _ rfl) V26 V27 rfl (by decide) (by rw [own_shl0]; exact own_nn (by omega)) (own_nn (by omega)) (Nat.le_of_eq (Nat.zero_add _)) (by rw [own_shl0, own_tn (by omega), own_tn (by omega)]; exact hsum) (own_us (l := own_bv ds) (by omega) (own_bvl ds)) (by rw [own_shl0, own_tn (by omega), own_tn (by omega), own_bufl (by omega)]; exact hsum) g_r (Own.Safe.size S25.warm V27 (hW 6 _ rfl) (own_sz16 hw)) rfl (hz _ rfl) (rest := []) rfl (hb hby own_d8_22) (by decide) (W := 0) (Own.hw0 rfl rfl) (by decide) (fun T28 h28 S28 J28 V28 => ?_)
  have A28 : Arv Z h28 ar kv .byte (16 : Int32) (own_buf (cs ++ ds)) (.int 0) := by
    have q := V28
    rw [own_shl0, own_tn (by omega), own_tn (by omega), own_put hsum] at q
    exact q
  refine hG.st (fun _ q => XS.goto S28.here hx rfl (pc0 := 25) (pc' := 43) rfl (hb hby own_d8_25) (by decide) (by decide) q) ?_
  show G T28 (mkF m 43 #[rv x, rv ar, iv (Int32.ofNat cs.length), iv 0] [])
  have J29 : Own.Stp Z consts_1 vm0 h0 vm22 h28 [ar] := Own.Stp.trans J22 J28 (all0) (allS (Or.inl (List.mem_of_getElem? (i := 0) rfl)) all0)
  exact Own.Sit.ret0 hR S28 hx hret (hb hby own_d8_43) (by decide) (by decide) ⟨J29.1, rfl, A28⟩
theorem own_pn98114d : plainFor (⟨"java/lang/AbstractStringBuilder", "putStringAt", "(ILjava/lang/String;)V"⟩ : MethodName) = true := by first | exact plainFor_of_name (by first | (simp [plainName, overriddenIn]; done) | decide +kernel) | decide +kernel
theorem own_pdab706b : parseMethodDescriptor "(Ljava/lang/String;)V" = some ⟨[(.object "java/lang/String")], none⟩ := by decide +kernel
theorem own_pdb25073 : parseMethodDescriptor "([BIB)V" = some ⟨[(.array .byte), .int, .byte], none⟩ := by decide +kernel
theorem own_d9_0 : decode jdk_68_method_73_code 0 = .ok (.aload_n 0, 1) := by decide +kernel
theorem own_d9_1 : decode jdk_68_method_73_code 1 = .ok (.aload_n 2, 1) := by decide +kernel
theorem own_d9_2 : decode jdk_68_method_73_code 2 = .ok (.invokevirtual 397, 3) := by decide +kernel
theorem own_d9_5 : decode jdk_68_method_73_code 5 = .ok (.aload_n 2, 1) := by decide +kernel
theorem own_d9_6 : decode jdk_68_method_73_code 6 = .ok (.aload_n 0, 1) := by decide +kernel
theorem own_d9_7 : decode jdk_68_method_73_code 7 = .ok (.getfield 15, 3) := by decide +kernel
theorem own_d9_10 : decode jdk_68_method_73_code 10 = .ok (.iload_n 1, 1) := by decide +kernel
theorem own_d9_11 : decode jdk_68_method_73_code 11 = .ok (.aload_n 0, 1) := by decide +kernel
theorem own_d9_12 : decode jdk_68_method_73_code 12 = .ok (.getfield 22, 3) := by decide +kernel
theorem own_d9_15 : decode jdk_68_method_73_code 15 = .ok (.invokevirtual 399, 3) := by decide +kernel
theorem own_d9_18 : decode jdk_68_method_73_code 18 = .ok (.return_, 1) := by decide +kernel
theorem own_ef_own_put1 (m : MethodId) (cs : List Int32) (b : Addr) (x : Addr) : entryFrame m #[(.ref b), (.int (Int32.ofNat cs.length)), (.ref x)] 3 = mkF m 0 #[rv b, iv (Int32.ofNat cs.length), rv x] [] := by first | (simp [entryFrame, mkF, argsToLocals, Value.category]; done) | rfl
set_option maxRecDepth 65536 in
set_option maxHeartbeats 40000000 in
theorem own_put1 (l : Launch) (Z : State) (a0 : Array Value) (H : own_Wld Z a0) {cw : List Jvm.Cond} (b : Addr) (x : Addr) (ar : Addr) (cs : List Int32) (t : Addr) (ds : List Int32) (h0 : Heap) (O0 : Ext Z.heap h0) {kv : ClassId} (SB : own_SB Z h0 b ar kv cs) (St_x : Own.Str Z h0 x t ds) (hsum : cs.length + ds.length ≤ 16) (g_b : Z.heap.size ≤ b) (g_r : Z.heap.size ≤ ar) :
    Own.Con l Z consts_1 (⟨"java/lang/AbstractStringBuilder", "putStringAt", "(ILjava/lang/String;)V"⟩ : MethodName) jdk_68_method_73_code 3 none cw ({ frames := 2, cells := 0, slots := 0, locals := 55 } : Room) #[(.ref b), (.int (Int32.ofNat cs.length)), (.ref x)] h0 (fun v h => Keep h0 h [ar] ∧ v = none ∧ Arv Z h ar kv .byte (16 : Int32) (own_buf (cs ++ ds)) (.int 0)) := by
  have hw := H.1
  have hW := fun (i : Nat) (w : Jvm.Cond) (e : tables_1[i]? = some w) => hw w (List.mem_of_getElem? e)
  have hCm := H.2.1
  have hSi := H.2.2.1
  have hEL := H.2.2.2
  have hWs : ∀ d ∈ StrChars.Road.words, d.before a0 Z = true := fun d hd => hw d (own_wbackV d hd)
  have hWl : ∀ d ∈ StrChars.Road.wordsLen, d.before a0 Z = true := fun d hd => hw d (own_wlenW d hd)
  have hSA : ∀ d ∈ Bundle.stringAtoms, d.before a0 Z = true := fun d hd => hw d (own_wSA d hd)
  refine Own.Con.of own_pn98114d hEL O0 ?_
  intro p e s m below meth c T0 G vm0 hx hby hml hret hnm hG hR S0
  have hz : ∀ L : Array Slot, L.size = 3 → L.size = c.maxLocals := fun L q => q.trans hml.symm
  rw [own_ef_own_put1]
  show G T0 (mkF m 0 #[rv b, iv (Int32.ofNat cs.length), rv x] [])
  obtain ⟨E_b30, Fv_b30, Fc_b30, Fn_b30, A_r30⟩ := id SB
  refine hG.st (fun _ q => XS.aloadN S0.here hx rfl (hb hby own_d9_0) rfl rfl (XS.aloadN S0.here hx rfl (hb hby own_d9_1) rfl rfl q)) ?_
  show G T0 (mkF m 2 #[rv b, iv (Int32.ofNat cs.length), rv x] [(.ref x), (.ref b)])
  have SB31 : own_SB Z h0 b ar kv cs := ⟨E_b30, Fv_b30, Fc_b30, Fn_b30, A_r30⟩
  refine Own.Sit.callPS hG S0 hx hEL (as := [(.ref x)]) (hW 123 _ rfl) (hW 125 _ rfl) (hW 126 _ rfl) (hW 124 _ rfl) (hW 88 _ rfl) (hW 127 _ rfl) (by decide) E_b30 (own_inf l Z a0 H b x ar cs t ds h0 S0.old SB31 St_x) own_pdab706b rfl rfl (hz _ rfl) (rest := []) rfl (W := 0) (Own.hw0 rfl rfl) (hb hby own_d9_2) (by decide) (by decide) (by decide) (by decide) (fun v32 vm32 T32 h32 S32 C32 q32 => ?_)
  obtain ⟨K32, rfl⟩ := q32
  have J32 : Own.Stp Z consts_1 vm0 h0 vm32 h32 [] := ⟨K32, C32⟩
  refine hG.st (fun _ q => XS.aloadN S32.here hx rfl (hb hby own_d9_5) rfl rfl (XS.aloadN S32.here hx rfl (hb hby own_d9_6) rfl rfl q)) ?_
  show G T32 (mkF m 7 #[rv b, iv (Int32.ofNat cs.length), rv x] [(.ref b), (.ref x)])
  have F33 := J32.fld Fv_b30 nin0
  refine Own.Sit.getF hG S32 hx (host := "") (Or.inl (hW 92 _ rfl)) Via.refl F33 rfl rfl (hb hby own_d9_7) (fun T34 S34 => ?_)
  refine hG.st (fun _ q => XS.iloadN S34.here hx rfl (hb hby own_d9_10) rfl (XS.aloadN S34.here hx rfl (hb hby own_d9_11) rfl rfl q)) ?_
  show G T34 (mkF m 12 #[rv b, iv (Int32.ofNat cs.length), rv x] [(.ref b), (.int (Int32.ofNat cs.length)), (.ref ar), (.ref x)])
  have F35 := J32.fld Fc_b30 nin0
  refine Own.Sit.getF hG S34 hx (host := "") (Or.inl (hW 94 _ rfl)) Via.refl F35 rfl rfl (hb hby own_d9_12) (fun T36 S36 => ?_)
  have St37 := J32.str St_x nin0 nin0
  have V38 := J32.arv A_r30 nin0
  show G T36 (mkF m 15 #[rv b, iv (Int32.ofNat cs.length), rv x] [(.int 0), (.int (Int32.ofNat cs.length)), (.ref ar), (.ref x)])
  refine Own.Sit.callV hG S36 hx hEL (as := [(.ref ar), (.int (Int32.ofNat cs.length)), (.int 0)]) (hW 129 _ rfl) (hW 130 _ rfl) (hW 132 _ rfl) (hW 131 _ rfl) (hW 7 _ rfl) (hW 133 _ rfl) (by decide) St37.exa (own_gb l Z a0 H x ar t cs ds h32 S36.old St37 V38 hsum g_r) own_pdb25073 rfl rfl (hz _ rfl) (rest := []) rfl (W := 0) (Own.hw0 rfl rfl) (hb hby own_d9_15) (by decide) (by decide) (by decide) (by decide) (fun v39 vm39 T39 h39 S39 C39 q39 => ?_)
  obtain ⟨K39, rfl, A39⟩ := q39
  have J39 : Own.Stp Z consts_1 vm32 h32 vm39 h39 [ar] := ⟨K39, C39⟩
  have J40 : Own.Stp Z consts_1 vm0 h0 vm39 h39 [ar] := Own.Stp.trans J32 J39 (all0) (allS (Or.inl (List.mem_of_getElem? (i := 0) rfl)) all0)
  show G T39 (mkF m 18 #[rv b, iv (Int32.ofNat cs.length), rv x] [])
  exact Own.Sit.ret0 hR S39 hx hret (hb hby own_d9_18) (by decide) (by decide) ⟨J40.1, rfl, A39⟩
theorem own_pn49e689 : plainFor (⟨"java/lang/AbstractStringBuilder", "append", "(Ljava/lang/String;)Ljava/lang/AbstractStringBuilder;"⟩ : MethodName) = true := by first | exact plainFor_of_name (by first | (simp [plainName, overriddenIn]; done) | decide +kernel) | decide +kernel
theorem own_pdc76b35 : parseMethodDescriptor "(I)V" = some ⟨[.int], none⟩ := by decide +kernel
theorem own_pdd2b67c : parseMethodDescriptor "(ILjava/lang/String;)V" = some ⟨[.int, (.object "java/lang/String")], none⟩ := by decide +kernel
theorem own_d10_0 : decode jdk_68_method_22_code 0 = .ok (.aload_n 1, 1) := by decide +kernel
theorem own_d10_1 : decode jdk_68_method_22_code 1 = .ok (.ifnonnull 8, 3) := by decide +kernel
theorem own_d10_9 : decode jdk_68_method_22_code 9 = .ok (.aload_n 1, 1) := by decide +kernel
theorem own_d10_10 : decode jdk_68_method_22_code 10 = .ok (.invokevirtual 32, 3) := by decide +kernel
theorem own_d10_13 : decode jdk_68_method_22_code 13 = .ok (.istore_n 2, 1) := by decide +kernel
theorem own_d10_14 : decode jdk_68_method_22_code 14 = .ok (.aload_n 0, 1) := by decide +kernel
theorem own_d10_15 : decode jdk_68_method_22_code 15 = .ok (.aload_n 0, 1) := by decide +kernel
theorem own_d10_16 : decode jdk_68_method_22_code 16 = .ok (.getfield 79, 3) := by decide +kernel
theorem own_d10_19 : decode jdk_68_method_22_code 19 = .ok (.iload_n 2, 1) := by decide +kernel
theorem own_d10_20 : decode jdk_68_method_22_code 20 = .ok (.iadd, 1) := by decide +kernel
theorem own_d10_21 : decode jdk_68_method_22_code 21 = .ok (.invokevirtual 100, 3) := by decide +kernel
theorem own_d10_24 : decode jdk_68_method_22_code 24 = .ok (.aload_n 0, 1) := by decide +kernel
theorem own_d10_25 : decode jdk_68_method_22_code 25 = .ok (.aload_n 0, 1) := by decide +kernel
theorem own_d10_26 : decode jdk_68_method_22_code 26 = .ok (.getfield 79, 3) := by decide +kernel
theorem own_d10_29 : decode jdk_68_method_22_code 29 = .ok (.aload_n 1, 1) := by decide +kernel
theorem own_d10_30 : decode jdk_68_method_22_code 30 = .ok (.invokevirtual 208, 3) := by decide +kernel
theorem own_d10_33 : decode jdk_68_method_22_code 33 = .ok (.aload_n 0, 1) := by decide +kernel
theorem own_d10_34 : decode jdk_68_method_22_code 34 = .ok (.dup, 1) := by decide +kernel
theorem own_d10_35 : decode jdk_68_method_22_code 35 = .ok (.getfield 79, 3) := by decide +kernel
theorem own_d10_38 : decode jdk_68_method_22_code 38 = .ok (.iload_n 2, 1) := by decide +kernel
theorem own_d10_39 : decode jdk_68_method_22_code 39 = .ok (.iadd, 1) := by decide +kernel
theorem own_d10_40 : decode jdk_68_method_22_code 40 = .ok (.putfield 79, 3) := by decide +kernel
theorem own_d10_43 : decode jdk_68_method_22_code 43 = .ok (.aload_n 0, 1) := by decide +kernel
theorem own_d10_44 : decode jdk_68_method_22_code 44 = .ok (.areturn, 1) := by decide +kernel
theorem own_ef_own_aps (m : MethodId) (b : Addr) (x : Addr) : entryFrame m #[(.ref b), (.ref x)] 3 = mkF m 0 #[rv b, rv x, .unset] [] := by first | (simp [entryFrame, mkF, argsToLocals, Value.category]; done) | rfl
set_option maxRecDepth 65536 in
set_option maxHeartbeats 40000000 in
theorem own_aps (l : Launch) (Z : State) (a0 : Array Value) (H : own_Wld Z a0) {cw : List Jvm.Cond} (b : Addr) (x : Addr) (ar : Addr) (cs : List Int32) (t : Addr) (ds : List Int32) (h0 : Heap) (O0 : Ext Z.heap h0) {kv : ClassId} (SB : own_SB Z h0 b ar kv cs) (St_x : Own.Str Z h0 x t ds) (hsum : cs.length + ds.length ≤ 16) (g_b : Z.heap.size ≤ b) (g_r : Z.heap.size ≤ ar) :
    Own.Con l Z consts_1 (⟨"java/lang/AbstractStringBuilder", "append", "(Ljava/lang/String;)Ljava/lang/AbstractStringBuilder;"⟩ : MethodName) jdk_68_method_22_code 3 (some (.object "java/lang/AbstractStringBuilder")) cw ({ frames := 3, cells := 0, slots := 0, locals := 69 } : Room) #[(.ref b), (.ref x)] h0 (fun v h => Keep h0 h [b, ar] ∧ v = some (.ref b) ∧ own_SB Z h b ar kv (cs ++ ds)) := by
  have hw := H.1
  have hW := fun (i : Nat) (w : Jvm.Cond) (e : tables_1[i]? = some w) => hw w (List.mem_of_getElem? e)
  have hCm := H.2.1
  have hSi := H.2.2.1
  have hEL := H.2.2.2
  have hWs : ∀ d ∈ StrChars.Road.words, d.before a0 Z = true := fun d hd => hw d (own_wbackV d hd)
  have hWl : ∀ d ∈ StrChars.Road.wordsLen, d.before a0 Z = true := fun d hd => hw d (own_wlenW d hd)
  have hSA : ∀ d ∈ Bundle.stringAtoms, d.before a0 Z = true := fun d hd => hw d (own_wSA d hd)
  refine Own.Con.of own_pn49e689 hEL O0 ?_
  intro p e s m below meth c T0 G vm0 hx hby hml hret hnm hG hR S0
  have hz : ∀ L : Array Slot, L.size = 3 → L.size = c.maxLocals := fun L q => q.trans hml.symm
  rw [own_ef_own_aps]
  show G T0 (mkF m 0 #[rv b, rv x, .unset] [])
  obtain ⟨E_b41, Fv_b41, Fc_b41, Fn_b41, A_r41⟩ := id SB
  refine hG.st (fun _ q => XS.aloadN S0.here hx rfl (hb hby own_d10_0) rfl rfl (XS.ifnonnullYes S0.here hx rfl (pc0 := 1) (pc' := 9) rfl (hb hby own_d10_1) rfl (by decide) (by decide) (XS.aloadN S0.here hx rfl (hb hby own_d10_9) rfl rfl q))) ?_
  show G T0 (mkF m 10 #[rv b, rv x, .unset] [(.ref x)])
  refine Own.Sit.strLen hG S0 hx hWl hCm (hW 6 _ rfl) (hW 106 _ rfl) (hW 107 _ rfl) (hW 109 _ rfl) (hW 108 _ rfl) St_x rfl (hz _ rfl) (rest := []) rfl (W := 0) (Own.hw0 rfl rfl) (hb hby own_d10_10) (by decide) (by decide) (by decide) (by decide) (fun T42 S42 => ?_)
  refine hG.st (fun _ q => XS.istoreN S42.here hx rfl (hb hby own_d10_13) rfl (l' := #[rv b, rv x, iv (Int32.ofNat (ds).length)]) rfl (XS.aloadN S42.here hx rfl (hb hby own_d10_14) rfl rfl (XS.aloadN S42.here hx rfl (hb hby own_d10_15) rfl rfl q))) ?_
  show G T42 (mkF m 16 #[rv b, rv x, iv (Int32.ofNat (ds).length)] [(.ref b), (.ref b)])
  refine Own.Sit.getF hG S42 hx (host := "") (Or.inl (hW 111 _ rfl)) Via.refl Fn_b41 rfl rfl (hb hby own_d10_16) (fun T43 S43 => ?_)
  refine hG.st (fun _ q => XS.iloadN S43.here hx rfl (hb hby own_d10_19) rfl (XS.iadd S43.here hx rfl (hb hby own_d10_20) rfl q)) ?_
  show G T43 (mkF m 21 #[rv b, rv x, iv (Int32.ofNat (ds).length)] [(.int ((Int32.ofNat cs.length) + (Int32.ofNat (ds).length))), (.ref b)])
  have SB44 : own_SB Z h0 b ar kv cs := ⟨E_b41, Fv_b41, Fc_b41, Fn_b41, A_r41⟩
  refine Own.Sit.callPS hG S43 hx hEL (as := [(.int ((Int32.ofNat cs.length) + (Int32.ofNat (ds).length)))]) (hW 113 _ rfl) (hW 115 _ rfl) (hW 116 _ rfl) (hW 114 _ rfl) (hW 88 _ rfl) (hW 117 _ rfl) (by decide) E_b41 (own_ens l Z a0 H b ((Int32.ofNat cs.length) + (Int32.ofNat (ds).length)) ar cs h0 S43.old SB44 (by rw [own_addn]; exact own_ec hsum)) own_pdc76b35 rfl rfl (hz _ rfl) (rest := []) rfl (W := 0) (Own.hw0 rfl rfl) (hb hby own_d10_21) (by decide) (by decide) (by decide) (by decide) (fun v45 vm45 T45 h45 S45 C45 q45 => ?_)
  obtain ⟨K45, rfl⟩ := q45
  have J45 : Own.Stp Z consts_1 vm0 h0 vm45 h45 [] := ⟨K45, C45⟩
  refine hG.st (fun _ q => XS.aloadN S45.here hx rfl (hb hby own_d10_24) rfl rfl (XS.aloadN S45.here hx rfl (hb hby own_d10_25) rfl rfl q)) ?_
  show G T45 (mkF m 26 #[rv b, rv x, iv (Int32.ofNat (ds).length)] [(.ref b), (.ref b)])
  have F46 := J45.fld Fn_b41 nin0
  refine Own.Sit.getF hG S45 hx (host := "") (Or.inl (hW 111 _ rfl)) Via.refl F46 rfl rfl (hb hby own_d10_26) (fun T47 S47 => ?_)
  refine hG.st (fun _ q => XS.aloadN S47.here hx rfl (hb hby own_d10_29) rfl rfl q) ?_
  show G T47 (mkF m 30 #[rv b, rv x, iv (Int32.ofNat (ds).length)] [(.ref x), (.int (Int32.ofNat cs.length)), (.ref b)])
  have E48 := J45.exa E_b41
  have F49 := J45.fld Fv_b41 nin0
  have F50 := J45.fld Fc_b41 nin0
  have V51 := J45.arv A_r41 nin0
  have SB52 : own_SB Z h45 b ar kv cs := ⟨E48, F49, F50, F46, V51⟩
  have St53 := J45.str St_x nin0 nin0
  refine Own.Sit.callPS hG S47 hx hEL (as := [(.int (Int32.ofNat cs.length)), (.ref x)]) (hW 118 _ rfl) (hW 120 _ rfl) (hW 121 _ rfl) (hW 119 _ rfl) (hW 88 _ rfl) (hW 122 _ rfl) (by decide) E48 (own_put1 l Z a0 H b x ar cs t ds h45 S47.old SB52 St53 hsum g_b g_r) own_pdd2b67c rfl rfl (hz _ rfl) (rest := []) rfl (W := 0) (Own.hw0 rfl rfl) (hb hby own_d10_30) (by decide) (by decide) (by decide) (by decide) (fun v54 vm54 T54 h54 S54 C54 q54 => ?_)
  obtain ⟨K54, rfl, A54⟩ := q54
  have J54 : Own.Stp Z consts_1 vm45 h45 vm54 h54 [ar] := ⟨K54, C54⟩
  refine hG.st (fun _ q => XS.aloadN S54.here hx rfl (hb hby own_d10_33) rfl rfl (XS.dup S54.here hx rfl (hb hby own_d10_34) rfl rfl q)) ?_
  show G T54 (mkF m 35 #[rv b, rv x, iv (Int32.ofNat (ds).length)] [(.ref b), (.ref b)])
  have J56 : Own.Stp Z consts_1 vm0 h0 vm54 h54 [ar] := Own.Stp.trans J45 J54 (all0) (allS (Or.inl (List.mem_of_getElem? (i := 0) rfl)) all0)
  have F55 := J54.fld F46 (ninS (Exa.neArv (J56.exa E_b41) A54 (hW 79 _ rfl)) nin0)
  refine Own.Sit.getF hG S54 hx (host := "") (Or.inl (hW 111 _ rfl)) Via.refl F55 rfl rfl (hb hby own_d10_35) (fun T57 S57 => ?_)
  refine hG.st (fun _ q => XS.iloadN S57.here hx rfl (hb hby own_d10_38) rfl (XS.iadd S57.here hx rfl (hb hby own_d10_39) rfl q)) ?_
  show G T57 (mkF m 40 #[rv b, rv x, iv (Int32.ofNat (ds).length)] [(.int ((Int32.ofNat cs.length) + (Int32.ofNat (ds).length))), (.ref b)])
  have E58 := J54.exa E48
  have F60 := J54.fld F49 (ninS (Exa.neArv (J56.exa E_b41) A54 (hW 79 _ rfl)) nin0)
  have F61 := J54.fld F50 (ninS (Exa.neArv (J56.exa E_b41) A54 (hW 79 _ rfl)) nin0)
  refine Own.Sit.putF hG S57 hx (host := "") (Or.inl (hW 111 _ rfl)) Via.refl F55 E58 (Or.inl (hW 112 _ rfl)) (hW 79 _ rfl) (ty := .int) (by decide) rfl rfl g_b (Safe.exa S57.warm.alike E58 (by decide) (by decide)) rfl rfl (hb hby own_d10_40) (fun T59 h59 S59 J59 W59 F59 => ?_)
  have F62 := Fld.other W59 F60 (Or.inr (slot_ne (Or.inl (hW 93 _ rfl)) (Or.inl (hW 112 _ rfl)) (by decide) (t := (.array .byte)) (by decide) (t' := .int) (by decide)))
  have F63 := Fld.other W59 F61 (Or.inr (slot_ne (Or.inl (hW 95 _ rfl)) (Or.inl (hW 112 _ rfl)) (by decide) (t := .byte) (by decide) (t' := .int) (by decide)))
  refine hG.st (fun _ q => XS.aloadN S59.here hx rfl (hb hby own_d10_43) rfl rfl q) ?_
  show G T59 (mkF m 44 #[rv b, rv x, iv (Int32.ofNat (ds).length)] [(.ref b)])
  have J64 : Own.Stp Z consts_1 vm0 h0 vm54 h59 [ar, b] := Own.Stp.trans J56 J59 (allS (List.mem_of_getElem? (i := 0) rfl) (all0)) (allS (Or.inl (List.mem_of_getElem? (i := 1) rfl)) all0)
  have E65 := J59.exa E58
  have V66 := J59.arv A54 (ninS (Ne.symm (Exa.neArv (J56.exa E_b41) A54 (hW 79 _ rfl))) nin0)
  exact Own.Sit.retO hR S59 hx hret rfl (Or.inr (Or.inr (Or.inr (Or.inr ⟨rfl, rfl, rfl⟩)))) (hb hby own_d10_44) (by decide) (by decide) ⟨(Own.keep_mono J64.1 (allS (List.mem_of_getElem? (i := 1) rfl) (allS (List.mem_of_getElem? (i := 0) rfl) all0))), rfl, E65, F62, F63, (by rw [← own_cnt]; exact F59), V66⟩
theorem own_pnc8a242 : plainFor (⟨"java/lang/StringBuilder", "append", "(Ljava/lang/String;)Ljava/lang/StringBuilder;"⟩ : MethodName) = true := by first | exact plainFor_of_name (by first | (simp [plainName, overriddenIn]; done) | decide +kernel) | decide +kernel
theorem own_pda22519 : parseMethodDescriptor "(Ljava/lang/String;)Ljava/lang/AbstractStringBuilder;" = some ⟨[(.object "java/lang/String")], some (.object "java/lang/AbstractStringBuilder")⟩ := by decide +kernel
theorem own_d11_0 : decode jdk_67_method_7_code 0 = .ok (.aload_n 0, 1) := by decide +kernel
theorem own_d11_1 : decode jdk_67_method_7_code 1 = .ok (.aload_n 1, 1) := by decide +kernel
theorem own_d11_2 : decode jdk_67_method_7_code 2 = .ok (.invokespecial 29, 3) := by decide +kernel
theorem own_d11_5 : decode jdk_67_method_7_code 5 = .ok (.pop, 1) := by decide +kernel
theorem own_d11_6 : decode jdk_67_method_7_code 6 = .ok (.aload_n 0, 1) := by decide +kernel
theorem own_d11_7 : decode jdk_67_method_7_code 7 = .ok (.areturn, 1) := by decide +kernel
theorem own_ef_own_bps (m : MethodId) (b : Addr) (x : Addr) : entryFrame m #[(.ref b), (.ref x)] 2 = mkF m 0 #[rv b, rv x] [] := by first | (simp [entryFrame, mkF, argsToLocals, Value.category]; done) | rfl
set_option maxRecDepth 65536 in
set_option maxHeartbeats 40000000 in
theorem own_bps (l : Launch) (Z : State) (a0 : Array Value) (H : own_Wld Z a0) {cw : List Jvm.Cond} (b : Addr) (x : Addr) (ar : Addr) (cs : List Int32) (t : Addr) (ds : List Int32) (h0 : Heap) (O0 : Ext Z.heap h0) {kv : ClassId} (SB : own_SB Z h0 b ar kv cs) (St_x : Own.Str Z h0 x t ds) (hsum : cs.length + ds.length ≤ 16) (g_b : Z.heap.size ≤ b) (g_r : Z.heap.size ≤ ar) :
    Own.Con l Z consts_1 (⟨"java/lang/StringBuilder", "append", "(Ljava/lang/String;)Ljava/lang/StringBuilder;"⟩ : MethodName) jdk_67_method_7_code 2 (some (.object "java/lang/StringBuilder")) cw ({ frames := 4, cells := 0, slots := 0, locals := 83 } : Room) #[(.ref b), (.ref x)] h0 (fun v h => Keep h0 h [b, ar] ∧ v = some (.ref b) ∧ own_SB Z h b ar kv (cs ++ ds)) := by
  have hw := H.1
  have hW := fun (i : Nat) (w : Jvm.Cond) (e : tables_1[i]? = some w) => hw w (List.mem_of_getElem? e)
  have hCm := H.2.1
  have hSi := H.2.2.1
  have hEL := H.2.2.2
  have hWs : ∀ d ∈ StrChars.Road.words, d.before a0 Z = true := fun d hd => hw d (own_wbackV d hd)
  have hWl : ∀ d ∈ StrChars.Road.wordsLen, d.before a0 Z = true := fun d hd => hw d (own_wlenW d hd)
  have hSA : ∀ d ∈ Bundle.stringAtoms, d.before a0 Z = true := fun d hd => hw d (own_wSA d hd)
  refine Own.Con.of own_pnc8a242 hEL O0 ?_
  intro p e s m below meth c T0 G vm0 hx hby hml hret hnm hG hR S0
  have hz : ∀ L : Array Slot, L.size = 2 → L.size = c.maxLocals := fun L q => q.trans hml.symm
  rw [own_ef_own_bps]
  show G T0 (mkF m 0 #[rv b, rv x] [])
  obtain ⟨E_b67, Fv_b67, Fc_b67, Fn_b67, A_r67⟩ := id SB
  refine hG.st (fun _ q => XS.aloadN S0.here hx rfl (hb hby own_d11_0) rfl rfl (XS.aloadN S0.here hx rfl (hb hby own_d11_1) rfl rfl q)) ?_
  show G T0 (mkF m 2 #[rv b, rv x] [(.ref x), (.ref b)])
  have SB68 : own_SB Z h0 b ar kv cs := ⟨E_b67, Fv_b67, Fc_b67, Fn_b67, A_r67⟩
  refine Own.Sit.callU hG S0 hx hEL (as := [(.ref x)]) (hW 101 _ rfl) (Own.same_of (by decide) (hW 102 _ rfl) (hW 116 _ rfl) rfl) (hW 102 _ rfl) (hW 103 _ rfl) (by decide) (hW 88 _ rfl) (hW 105 _ rfl) E_b67 (own_aps l Z a0 H b x ar cs t ds h0 S0.old SB68 St_x hsum g_b g_r) own_pda22519 rfl rfl (hz _ rfl) (rest := []) rfl (W := 0) (Own.hw0 rfl rfl) (hb hby own_d11_2) (by decide) (by decide) (by decide) (by decide) (fun v69 vm69 T69 h69 S69 C69 q69 => ?_)
  obtain ⟨K69, rfl, SB69⟩ := q69
  have J69 : Own.Stp Z consts_1 vm0 h0 vm69 h69 [b, ar] := ⟨K69, C69⟩
  obtain ⟨E_b70, Fv_b70, Fc_b70, Fn_b70, A_r70⟩ := id SB69
  refine hG.st (fun _ q => XS.pop S69.here hx rfl (hb hby own_d11_5) rfl rfl (XS.aloadN S69.here hx rfl (hb hby own_d11_6) rfl rfl q)) ?_
  show G T69 (mkF m 7 #[rv b, rv x] [(.ref b)])
  exact Own.Sit.retO hR S69 hx hret rfl (Or.inr (Or.inr (Or.inr (Or.inr ⟨rfl, rfl, rfl⟩)))) (hb hby own_d11_7) (by decide) (by decide) ⟨J69.1, rfl, E_b70, Fv_b70, Fc_b70, Fn_b70, A_r70⟩
theorem own_pn40180b : plainFor (⟨"java/lang/AbstractStringBuilder", "<init>", "(I)V"⟩ : MethodName) = true := by first | exact plainFor_of_name (by first | (simp [plainName, overriddenIn]; done) | decide +kernel) | decide +kernel
theorem own_d12_0 : decode jdk_68_method_2_code 0 = .ok (.aload_n 0, 1) := by decide +kernel
theorem own_d12_1 : decode jdk_68_method_2_code 1 = .ok (.invokespecial 3, 3) := by decide +kernel
theorem own_d12_4 : decode jdk_68_method_2_code 4 = .ok (.getstatic 18, 3) := by decide +kernel
theorem own_d12_7 : decode jdk_68_method_2_code 7 = .ok (.ifCond .eq 18, 3) := by decide +kernel
theorem own_d12_10 : decode jdk_68_method_2_code 10 = .ok (.aload_n 0, 1) := by decide +kernel
theorem own_d12_11 : decode jdk_68_method_2_code 11 = .ok (.iload_n 1, 1) := by decide +kernel
theorem own_d12_12 : decode jdk_68_method_2_code 12 = .ok (.newarray .byte, 2) := by decide +kernel
theorem own_d12_14 : decode jdk_68_method_2_code 14 = .ok (.putfield 15, 3) := by decide +kernel
theorem own_d12_17 : decode jdk_68_method_2_code 17 = .ok (.aload_n 0, 1) := by decide +kernel
theorem own_d12_18 : decode jdk_68_method_2_code 18 = .ok (.iconst 0, 1) := by decide +kernel
theorem own_d12_19 : decode jdk_68_method_2_code 19 = .ok (.putfield 22, 3) := by decide +kernel
theorem own_d12_22 : decode jdk_68_method_2_code 22 = .ok (.goto 16, 3) := by decide +kernel
theorem own_d12_38 : decode jdk_68_method_2_code 38 = .ok (.return_, 1) := by decide +kernel
theorem own_ef_own_ain (m : MethodId) (b : Addr) : entryFrame m #[(.ref b), (.int 16)] 2 = mkF m 0 #[rv b, iv 16] [] := by first | (simp [entryFrame, mkF, argsToLocals, Value.category]; done) | rfl
set_option maxRecDepth 65536 in
set_option maxHeartbeats 40000000 in
theorem own_ain (l : Launch) (Z : State) (a0 : Array Value) (H : own_Wld Z a0) {cw : List Jvm.Cond} (b : Addr) (h0 : Heap) (O0 : Ext Z.heap h0) (g_b : Z.heap.size ≤ b) (E_b : Exa Z h0 b "java/lang/StringBuilder") (F_v : Fld Z h0 b "java/lang/AbstractStringBuilder" "value" "[B" .null) (F_c : Fld Z h0 b "java/lang/AbstractStringBuilder" "coder" "B" (.int 0)) (F_n : Fld Z h0 b "java/lang/AbstractStringBuilder" "count" "I" (.int 0)) :
    Own.Con l Z consts_1 (⟨"java/lang/AbstractStringBuilder", "<init>", "(I)V"⟩ : MethodName) jdk_68_method_2_code 2 none cw ({ frames := 1, cells := 1, slots := 16, locals := 12 } : Room) #[(.ref b), (.int 16)] h0 (fun v h => Keep h0 h [b] ∧ v = none ∧ ∃ ar kv, h0.size ≤ ar ∧ own_SB Z h b ar kv []) := by
  have hw := H.1
  have hW := fun (i : Nat) (w : Jvm.Cond) (e : tables_1[i]? = some w) => hw w (List.mem_of_getElem? e)
  have hCm := H.2.1
  have hSi := H.2.2.1
  have hEL := H.2.2.2
  have hWs : ∀ d ∈ StrChars.Road.words, d.before a0 Z = true := fun d hd => hw d (own_wbackV d hd)
  have hWl : ∀ d ∈ StrChars.Road.wordsLen, d.before a0 Z = true := fun d hd => hw d (own_wlenW d hd)
  have hSA : ∀ d ∈ Bundle.stringAtoms, d.before a0 Z = true := fun d hd => hw d (own_wSA d hd)
  refine Own.Con.of own_pn40180b hEL O0 ?_
  intro p e s m below meth c T0 G vm0 hx hby hml hret hnm hG hR S0
  have hz : ∀ L : Array Slot, L.size = 2 → L.size = c.maxLocals := fun L q => q.trans hml.symm
  rw [own_ef_own_ain]
  show G T0 (mkF m 0 #[rv b, iv 16] [])
  obtain ⟨zc, Szc, nzc⟩ := id hCm
  refine hG.st (fun _ q => XS.aloadN S0.here hx rfl (hb hby own_d12_0) rfl rfl q) ?_
  show G T0 (mkF m 1 #[rv b, iv 16] [(.ref b)])
  refine Own.Sit.initO hG S0 hx (hW 90 _ rfl) (hW 17 _ rfl) (hW 18 _ rfl) rfl (hz _ rfl) rfl (hb hby own_d12_1) (by decide) (W := 0) (Own.hw0 rfl rfl) (by decide) (fun T71 S71 => ?_)
  show G T71 (mkF m 4 #[rv b, iv 16] [])
  refine Own.Sit.getS hG S71 hx (host := "") (Or.inl (hW 91 _ rfl)) Via.refl (Szc.ext S71.old) rfl (hb hby own_d12_4) (fun T72 S72 => ?_)
  refine hG.st (fun _ q => XS.ifNo S72.here hx rfl (hb hby own_d12_7) rfl ((if0 _ _).trans (feq (nzc : ¬ (zc = (0 : Int32)))).1) (XS.aloadN S72.here hx rfl (hb hby own_d12_10) rfl rfl (XS.iloadN S72.here hx rfl (hb hby own_d12_11) rfl q))) ?_
  show G T72 (mkF m 12 #[rv b, iv 16] [(.int 16), (.ref b)])
  refine Own.Sit.newP hG S72 hx (aty := .byte) (hW 20 _ rfl) rfl (hb hby own_d12_12) rfl (by decide) (cap := 16) (by decide) (by decide) (by decide) (by decide) (fun T73 h73 x73 k73 g_x73 S73 J73 Sf73 (V73 : Arv Z h73 x73 k73 .byte (16 : Int32) (List.map Value.int (0::0::0::0::0::0::0::0::0::0::0::0::0::0::0::0::[])) (.int 0)) => ?_)
  have lt_x73 := V73.lt
  have ga_x73 : Z.heap.size ≤ x73 := Nat.le_trans S72.le (Nat.le_of_eq g_x73.symm)
  have F74 := J73.fld F_v nin0
  have E75 := J73.exa E_b
  have F77 := J73.fld F_c nin0
  have F78 := J73.fld F_n nin0
  show G T73 (mkF m 14 #[rv b, iv 16] [(.ref x73), (.ref b)])
  refine Own.Sit.putF hG S73 hx (host := "") (Or.inl (hW 92 _ rfl)) Via.refl F74 E75 (Or.inl (hW 93 _ rfl)) (hW 79 _ rfl) (ty := (.array .byte)) (by decide) rfl rfl g_b (Safe.exa S73.warm.alike E75 (by decide) (by decide)) rfl rfl (hb hby own_d12_14) (fun T76 h76 S76 J76 W76 F76 => ?_)
  have F79 := Fld.other W76 F77 (Or.inr (slot_ne (Or.inl (hW 95 _ rfl)) (Or.inl (hW 93 _ rfl)) (by decide) (t := .byte) (by decide) (t' := (.array .byte)) (by decide)))
  have F80 := Fld.other W76 F78 (Or.inr (slot_ne (Or.inl (hW 112 _ rfl)) (Or.inl (hW 93 _ rfl)) (by decide) (t := .int) (by decide) (t' := (.array .byte)) (by decide)))
  refine hG.st (fun _ q => XS.aloadN S76.here hx rfl (hb hby own_d12_17) rfl rfl (XS.iconst S76.here hx rfl (hb hby own_d12_18) q)) ?_
  show G T76 (mkF m 19 #[rv b, iv 16] [(.int 0), (.ref b)])
  have E81 := J76.exa E75
  refine Own.Sit.putF hG S76 hx (host := "") (Or.inl (hW 94 _ rfl)) Via.refl F79 E81 (Or.inl (hW 95 _ rfl)) (hW 79 _ rfl) (ty := .byte) (by decide) rfl rfl g_b (Safe.exa S76.warm.alike E81 (by decide) (by decide)) rfl rfl (hb hby own_d12_19) (fun T82 h82 S82 J82 W82 F82 => ?_)
  have F83 := Fld.other W82 F76 (Or.inr (slot_ne (Or.inl (hW 93 _ rfl)) (Or.inl (hW 95 _ rfl)) (by decide) (t := (.array .byte)) (by decide) (t' := .byte) (by decide)))
  have F84 := Fld.other W82 F80 (Or.inr (slot_ne (Or.inl (hW 112 _ rfl)) (Or.inl (hW 95 _ rfl)) (by decide) (t := .int) (by decide) (t' := .byte) (by decide)))
  refine hG.st (fun _ q => XS.goto S82.here hx rfl (pc0 := 22) (pc' := 38) rfl (hb hby own_d12_22) (by decide) (by decide) q) ?_
  show G T82 (mkF m 38 #[rv b, iv 16] [])
  have J85 : Own.Stp Z consts_1 vm0 h0 vm0 h76 [b] := Own.Stp.trans J73 J76 (all0) (allS (Or.inl (List.mem_of_getElem? (i := 0) rfl)) all0)
  have J86 : Own.Stp Z consts_1 vm0 h0 vm0 h82 [b] := Own.Stp.trans J85 J82 (allS (List.mem_of_getElem? (i := 0) rfl) (all0)) (allS (Or.inl (List.mem_of_getElem? (i := 0) rfl)) all0)
  have E87 := J82.exa E81
  have J88 : Own.Stp Z consts_1 vm0 h73 vm0 h82 [b] := Own.Stp.trans J76 J82 (allS (List.mem_of_getElem? (i := 0) rfl) (all0)) (allS (Or.inl (List.mem_of_getElem? (i := 0) rfl)) all0)
  have V89 := J88.arv V73 (ninS (Ne.symm (Nat.ne_of_lt (Nat.lt_of_lt_of_le E_b.lt (Nat.le_of_eq g_x73.symm)))) nin0)
  exact Own.Sit.ret0 hR S82 hx hret (hb hby own_d12_38) (by decide) (by decide) ⟨J86.1, rfl, x73, _, (Nat.le_of_eq g_x73.symm), E87, F83, F82, F84, V89⟩
theorem own_pnf5230f : plainFor (⟨"java/lang/StringBuilder", "<init>", "()V"⟩ : MethodName) = true := by first | exact plainFor_of_name (by first | (simp [plainName, overriddenIn]; done) | decide +kernel) | decide +kernel
theorem own_d13_0 : decode jdk_67_method_1_code 0 = .ok (.aload_n 0, 1) := by decide +kernel
theorem own_d13_1 : decode jdk_67_method_1_code 1 = .ok (.bipush 16, 2) := by decide +kernel
theorem own_d13_3 : decode jdk_67_method_1_code 3 = .ok (.invokespecial 1, 3) := by decide +kernel
theorem own_d13_6 : decode jdk_67_method_1_code 6 = .ok (.return_, 1) := by decide +kernel
theorem own_ef_own_bin (m : MethodId) (b : Addr) : entryFrame m #[(.ref b)] 1 = mkF m 0 #[rv b] [] := by first | (simp [entryFrame, mkF, argsToLocals, Value.category]; done) | rfl
set_option maxRecDepth 65536 in
set_option maxHeartbeats 40000000 in
theorem own_bin (l : Launch) (Z : State) (a0 : Array Value) (H : own_Wld Z a0) {cw : List Jvm.Cond} (b : Addr) (h0 : Heap) (O0 : Ext Z.heap h0) (g_b : Z.heap.size ≤ b) (E_b : Exa Z h0 b "java/lang/StringBuilder") (F_v : Fld Z h0 b "java/lang/AbstractStringBuilder" "value" "[B" .null) (F_c : Fld Z h0 b "java/lang/AbstractStringBuilder" "coder" "B" (.int 0)) (F_n : Fld Z h0 b "java/lang/AbstractStringBuilder" "count" "I" (.int 0)) :
    Own.Con l Z consts_1 (⟨"java/lang/StringBuilder", "<init>", "()V"⟩ : MethodName) jdk_67_method_1_code 1 none cw ({ frames := 2, cells := 1, slots := 16, locals := 25 } : Room) #[(.ref b)] h0 (fun v h => Keep h0 h [b] ∧ v = none ∧ ∃ ar kv, h0.size ≤ ar ∧ own_SB Z h b ar kv []) := by
  have hw := H.1
  have hW := fun (i : Nat) (w : Jvm.Cond) (e : tables_1[i]? = some w) => hw w (List.mem_of_getElem? e)
  have hCm := H.2.1
  have hSi := H.2.2.1
  have hEL := H.2.2.2
  have hWs : ∀ d ∈ StrChars.Road.words, d.before a0 Z = true := fun d hd => hw d (own_wbackV d hd)
  have hWl : ∀ d ∈ StrChars.Road.wordsLen, d.before a0 Z = true := fun d hd => hw d (own_wlenW d hd)
  have hSA : ∀ d ∈ Bundle.stringAtoms, d.before a0 Z = true := fun d hd => hw d (own_wSA d hd)
  refine Own.Con.of own_pnf5230f hEL O0 ?_
  intro p e s m below meth c T0 G vm0 hx hby hml hret hnm hG hR S0
  have hz : ∀ L : Array Slot, L.size = 1 → L.size = c.maxLocals := fun L q => q.trans hml.symm
  rw [own_ef_own_bin]
  show G T0 (mkF m 0 #[rv b] [])
  refine hG.st (fun _ q => XS.aloadN S0.here hx rfl (hb hby own_d13_0) rfl rfl (XS.bipush S0.here hx rfl (hb hby own_d13_1) q)) ?_
  show G T0 (mkF m 3 #[rv b] [(.int 16), (.ref b)])
  refine Own.Sit.callI hG S0 hx hEL rfl (as := [(.int 16)]) (hW 84 _ rfl) (hW 85 _ rfl) (hW 88 _ rfl) (hW 89 _ rfl) (by decide) (own_ain l Z a0 H b h0 S0.old g_b E_b F_v F_c F_n) own_pdc76b35 rfl rfl (hz _ rfl) (rest := []) rfl (W := 0) (Own.hw0 rfl rfl) (hb hby own_d13_3) (by decide) (by decide) (by decide) (by decide) (fun v90 vm90 T90 h90 S90 C90 q90 => ?_)
  obtain ⟨K90, rfl, ar90, kv90, ur90, SB90⟩ := q90
  have J90 : Own.Stp Z consts_1 vm0 h0 vm90 h90 [b] := ⟨K90, C90⟩
  obtain ⟨E_b91, Fv_b91, Fc_b91, Fn_b91, A_r91⟩ := id SB90
  have ga_ar90 : Z.heap.size ≤ ar90 := Nat.le_trans S0.le ur90
  have SB92 : own_SB Z h90 b ar90 kv90 ([] : List Int32) := ⟨E_b91, Fv_b91, Fc_b91, Fn_b91, A_r91⟩
  show G T90 (mkF m 6 #[rv b] [])
  exact Own.Sit.ret0 hR S90 hx hret (hb hby own_d13_6) (by decide) (by decide) ⟨J90.1, rfl, ar90, _, ur90, SB92⟩
theorem own_sub0 (x : Int32) : x - 0 = x := by simp
theorem own_l16 {n : Nat} (h : n ≤ 11) : Int32.ofNat n < 16 := by
  have e : (16 : Int32).toInt = 16 := rfl
  rw [Int32.lt_iff_toInt_lt, own_ti (by omega), e]; omega
theorem own_e16 {n : Nat} (h : n ≤ 11) : ¬ Int32.ofNat n = 16 := fun q => by
  have l := own_l16 h
  rw [q] at l; exact absurd l (by decide)
theorem own_pn3bc5e9 : plainFor (⟨"java/util/Arrays", "checkLength", "(II)V"⟩ : MethodName) = true := by first | exact plainFor_of_name (by first | (simp [plainName, overriddenIn]; done) | decide +kernel) | decide +kernel
theorem own_d14_0 : decode jdk_65_method_131_code 0 = .ok (.iload_n 1, 1) := by decide +kernel
theorem own_d14_1 : decode jdk_65_method_131_code 1 = .ok (.iload_n 0, 1) := by decide +kernel
theorem own_d14_2 : decode jdk_65_method_131_code 2 = .ok (.if_icmp .ge 35, 3) := by decide +kernel
theorem own_d14_37 : decode jdk_65_method_131_code 37 = .ok (.return_, 1) := by decide +kernel
theorem own_ef_own_ckl (m : MethodId) (z : Int32) : entryFrame m #[(.int 0), (.int z)] 2 = mkF m 0 #[iv 0, iv z] [] := by first | (simp [entryFrame, mkF, argsToLocals, Value.category]; done) | rfl
set_option maxRecDepth 65536 in
set_option maxHeartbeats 40000000 in
theorem own_ckl (l : Launch) (Z : State) (a0 : Array Value) (H : own_Wld Z a0) {cw : List Jvm.Cond} (z : Int32) (h0 : Heap) (O0 : Ext Z.heap h0) (hzz : ¬ z < 0) :
    Own.Con l Z consts_1 (⟨"java/util/Arrays", "checkLength", "(II)V"⟩ : MethodName) jdk_65_method_131_code 2 none cw ({ frames := 0, cells := 0, slots := 0, locals := 0 } : Room) #[(.int 0), (.int z)] h0 (fun v h => Keep h0 h [] ∧ v = none) := by
  have hw := H.1
  have hW := fun (i : Nat) (w : Jvm.Cond) (e : tables_1[i]? = some w) => hw w (List.mem_of_getElem? e)
  have hCm := H.2.1
  have hSi := H.2.2.1
  have hEL := H.2.2.2
  have hWs : ∀ d ∈ StrChars.Road.words, d.before a0 Z = true := fun d hd => hw d (own_wbackV d hd)
  have hWl : ∀ d ∈ StrChars.Road.wordsLen, d.before a0 Z = true := fun d hd => hw d (own_wlenW d hd)
  have hSA : ∀ d ∈ Bundle.stringAtoms, d.before a0 Z = true := fun d hd => hw d (own_wSA d hd)
  refine Own.Con.of own_pn3bc5e9 hEL O0 ?_
  intro p e s m below meth c T0 G vm0 hx hby hml hret hnm hG hR S0
  have hz : ∀ L : Array Slot, L.size = 2 → L.size = c.maxLocals := fun L q => q.trans hml.symm
  rw [own_ef_own_ckl]
  show G T0 (mkF m 0 #[iv 0, iv z] [])
  refine hG.st (fun _ q => XS.iloadN S0.here hx rfl (hb hby own_d14_0) rfl (XS.iloadN S0.here hx rfl (hb hby own_d14_1) rfl (XS.icmpYes S0.here hx rfl (pc0 := 2) (pc' := 37) rfl (hb hby own_d14_2) rfl (flt (hzz : ¬ (z < (0 : Int32)))).2.1 (by decide) (by decide) q))) ?_
  show G T0 (mkF m 37 #[iv 0, iv z] [])
  exact Own.Sit.ret0 hR S0 hx hret (hb hby own_d14_37) (by decide) (by decide) ⟨(Keep.refl _ _), rfl⟩
theorem own_pn104a7a : plainFor (⟨"java/lang/Math", "min", "(II)I"⟩ : MethodName) = true := by first | exact plainFor_of_name (by first | (simp [plainName, overriddenIn]; done) | decide +kernel) | decide +kernel
theorem own_d15_0 : decode jdk_29_method_69_code 0 = .ok (.iload_n 0, 1) := by decide +kernel
theorem own_d15_1 : decode jdk_29_method_69_code 1 = .ok (.iload_n 1, 1) := by decide +kernel
theorem own_d15_2 : decode jdk_29_method_69_code 2 = .ok (.if_icmp .gt 7, 3) := by decide +kernel
theorem own_d15_9 : decode jdk_29_method_69_code 9 = .ok (.iload_n 1, 1) := by decide +kernel
theorem own_d15_10 : decode jdk_29_method_69_code 10 = .ok (.ireturn, 1) := by decide +kernel
theorem own_ef_own_min (m : MethodId) (z : Int32) : entryFrame m #[(.int 16), (.int z)] 2 = mkF m 0 #[iv 16, iv z] [] := by first | (simp [entryFrame, mkF, argsToLocals, Value.category]; done) | rfl
set_option maxRecDepth 65536 in
set_option maxHeartbeats 40000000 in
theorem own_min (l : Launch) (Z : State) (a0 : Array Value) (H : own_Wld Z a0) {cw : List Jvm.Cond} (z : Int32) (h0 : Heap) (O0 : Ext Z.heap h0) (hzz : z < 16) :
    Own.Con l Z consts_1 (⟨"java/lang/Math", "min", "(II)I"⟩ : MethodName) jdk_29_method_69_code 2 (some .int) cw ({ frames := 0, cells := 0, slots := 0, locals := 0 } : Room) #[(.int 16), (.int z)] h0 (fun v h => Keep h0 h [] ∧ v = some (.int z)) := by
  have hw := H.1
  have hW := fun (i : Nat) (w : Jvm.Cond) (e : tables_1[i]? = some w) => hw w (List.mem_of_getElem? e)
  have hCm := H.2.1
  have hSi := H.2.2.1
  have hEL := H.2.2.2
  have hWs : ∀ d ∈ StrChars.Road.words, d.before a0 Z = true := fun d hd => hw d (own_wbackV d hd)
  have hWl : ∀ d ∈ StrChars.Road.wordsLen, d.before a0 Z = true := fun d hd => hw d (own_wlenW d hd)
  have hSA : ∀ d ∈ Bundle.stringAtoms, d.before a0 Z = true := fun d hd => hw d (own_wSA d hd)
  refine Own.Con.of own_pn104a7a hEL O0 ?_
  intro p e s m below meth c T0 G vm0 hx hby hml hret hnm hG hR S0
  have hz : ∀ L : Array Slot, L.size = 2 → L.size = c.maxLocals := fun L q => q.trans hml.symm
  rw [own_ef_own_min]
  show G T0 (mkF m 0 #[iv 16, iv z] [])
  refine hG.st (fun _ q => XS.iloadN S0.here hx rfl (hb hby own_d15_0) rfl (XS.iloadN S0.here hx rfl (hb hby own_d15_1) rfl (XS.icmpYes S0.here hx rfl (pc0 := 2) (pc' := 9) rfl (hb hby own_d15_2) rfl (tlt (hzz : z < (16 : Int32))).2.2.1 (by decide) (by decide) (XS.iloadN S0.here hx rfl (hb hby own_d15_9) rfl q)))) ?_
  show G T0 (mkF m 10 #[iv 16, iv z] [(.int z)])
  exact Own.Sit.retO hR S0 hx hret rfl (Or.inl ⟨rfl, Or.inl rfl, _, rfl⟩) (hb hby own_d15_10) (by decide) (by decide) ⟨(Keep.refl _ _), rfl⟩
theorem own_pnae0263 : plainFor (⟨"java/util/Arrays", "copyOfRangeByte", "([BII)[B"⟩ : MethodName) = true := by first | exact plainFor_of_name (by first | (simp [plainName, overriddenIn]; done) | decide +kernel) | decide +kernel
theorem own_pd4d0c4d : parseMethodDescriptor "(II)V" = some ⟨[.int, .int], none⟩ := by decide +kernel
theorem own_pdd33b19 : parseMethodDescriptor "(II)I" = some ⟨[.int, .int], some .int⟩ := by decide +kernel
theorem own_d16_0 : decode jdk_65_method_133_code 0 = .ok (.iload_n 1, 1) := by decide +kernel
theorem own_d16_1 : decode jdk_65_method_133_code 1 = .ok (.iload_n 2, 1) := by decide +kernel
theorem own_d16_2 : decode jdk_65_method_133_code 2 = .ok (.invokestatic 343, 3) := by decide +kernel
theorem own_d16_5 : decode jdk_65_method_133_code 5 = .ok (.iload_n 2, 1) := by decide +kernel
theorem own_d16_6 : decode jdk_65_method_133_code 6 = .ok (.iload_n 1, 1) := by decide +kernel
theorem own_d16_7 : decode jdk_65_method_133_code 7 = .ok (.isub, 1) := by decide +kernel
theorem own_d16_8 : decode jdk_65_method_133_code 8 = .ok (.istore_n 3, 1) := by decide +kernel
theorem own_d16_9 : decode jdk_65_method_133_code 9 = .ok (.iload_n 3, 1) := by decide +kernel
theorem own_d16_10 : decode jdk_65_method_133_code 10 = .ok (.newarray .byte, 2) := by decide +kernel
theorem own_d16_12 : decode jdk_65_method_133_code 12 = .ok (.astore 4, 2) := by decide +kernel
theorem own_d16_14 : decode jdk_65_method_133_code 14 = .ok (.aload_n 0, 1) := by decide +kernel
theorem own_d16_15 : decode jdk_65_method_133_code 15 = .ok (.iload_n 1, 1) := by decide +kernel
theorem own_d16_16 : decode jdk_65_method_133_code 16 = .ok (.aload 4, 2) := by decide +kernel
theorem own_d16_18 : decode jdk_65_method_133_code 18 = .ok (.iconst 0, 1) := by decide +kernel
theorem own_d16_19 : decode jdk_65_method_133_code 19 = .ok (.aload_n 0, 1) := by decide +kernel
theorem own_d16_20 : decode jdk_65_method_133_code 20 = .ok (.arraylength, 1) := by decide +kernel
theorem own_d16_21 : decode jdk_65_method_133_code 21 = .ok (.iload_n 1, 1) := by decide +kernel
theorem own_d16_22 : decode jdk_65_method_133_code 22 = .ok (.isub, 1) := by decide +kernel
theorem own_d16_23 : decode jdk_65_method_133_code 23 = .ok (.iload_n 3, 1) := by decide +kernel
theorem own_d16_24 : decode jdk_65_method_133_code 24 = .ok (.invokestatic 304, 3) := by decide +kernel
theorem own_d16_27 : decode jdk_65_method_133_code 27 = .ok (.invokestatic 150, 3) := by decide +kernel
theorem own_d16_30 : decode jdk_65_method_133_code 30 = .ok (.aload 4, 2) := by decide +kernel
theorem own_d16_32 : decode jdk_65_method_133_code 32 = .ok (.areturn, 1) := by decide +kernel
theorem own_ef_own_crb (m : MethodId) (cs : List Int32) (ar : Addr) : entryFrame m #[(.ref ar), (.int 0), (.int (Int32.ofNat cs.length))] 5 = mkF m 0 #[rv ar, iv 0, iv (Int32.ofNat cs.length), .unset, .unset] [] := by first | (simp [entryFrame, mkF, argsToLocals, Value.category]; done) | rfl
set_option maxRecDepth 65536 in
set_option maxHeartbeats 40000000 in
theorem own_crb (l : Launch) (Z : State) (a0 : Array Value) (H : own_Wld Z a0) {cw : List Jvm.Cond} (ar : Addr) (cs : List Int32) (h0 : Heap) (O0 : Ext Z.heap h0) {kv : ClassId} (A_r : Arv Z h0 ar kv .byte (16 : Int32) (own_buf cs) (.int 0)) (hl : cs.length ≤ 11) :
    Own.Con l Z consts_1 (⟨"java/util/Arrays", "copyOfRangeByte", "([BII)[B"⟩ : MethodName) jdk_65_method_133_code 5 (some (.array .byte)) cw ({ frames := 1, cells := 1, slots := 16, locals := 40 } : Room) #[(.ref ar), (.int 0), (.int (Int32.ofNat cs.length))] h0 (fun v h => Keep h0 h [] ∧ ∃ t kb, v = some (.ref t) ∧ h0.size ≤ t ∧ Arv Z h t kb .byte (Int32.ofNat cs.length) (own_bv cs) (.int 0)) := by
  have hw := H.1
  have hW := fun (i : Nat) (w : Jvm.Cond) (e : tables_1[i]? = some w) => hw w (List.mem_of_getElem? e)
  have hCm := H.2.1
  have hSi := H.2.2.1
  have hEL := H.2.2.2
  have hWs : ∀ d ∈ StrChars.Road.words, d.before a0 Z = true := fun d hd => hw d (own_wbackV d hd)
  have hWl : ∀ d ∈ StrChars.Road.wordsLen, d.before a0 Z = true := fun d hd => hw d (own_wlenW d hd)
  have hSA : ∀ d ∈ Bundle.stringAtoms, d.before a0 Z = true := fun d hd => hw d (own_wSA d hd)
  refine Own.Con.of own_pnae0263 hEL O0 ?_
  intro p e s m below meth c T0 G vm0 hx hby hml hret hnm hG hR S0
  have hz : ∀ L : Array Slot, L.size = 5 → L.size = c.maxLocals := fun L q => q.trans hml.symm
  rw [own_ef_own_crb]
  show G T0 (mkF m 0 #[rv ar, iv 0, iv (Int32.ofNat cs.length), .unset, .unset] [])
  refine hG.st (fun _ q => XS.iloadN S0.here hx rfl (hb hby own_d16_0) rfl (XS.iloadN S0.here hx rfl (hb hby own_d16_1) rfl q)) ?_
  show G T0 (mkF m 2 #[rv ar, iv 0, iv (Int32.ofNat cs.length), .unset, .unset] [(.int (Int32.ofNat cs.length)), (.int 0)])
  refine Own.Sit.callS hG S0 hx hEL (as := [(.int 0), (.int (Int32.ofNat cs.length))]) (hW 193 _ rfl) (hW 194 _ rfl) (hW 188 _ rfl) (hW 195 _ rfl) (by decide) (own_ckl l Z a0 H (Int32.ofNat cs.length) h0 S0.old (own_nn (by omega))) own_pd4d0c4d rfl rfl (hz _ rfl) (rest := []) rfl (W := 0) (Own.hw0 rfl rfl) (hb hby own_d16_2) (by decide) (by decide) (by decide) (by decide) (fun v93 vm93 T93 h93 S93 C93 q93 => ?_)
  obtain ⟨K93, rfl⟩ := q93
  have J93 : Own.Stp Z consts_1 vm0 h0 vm93 h93 [] := ⟨K93, C93⟩
  refine hG.st (fun _ q => XS.iloadN S93.here hx rfl (hb hby own_d16_5) rfl (XS.iloadN S93.here hx rfl (hb hby own_d16_6) rfl (XS.isub S93.here hx rfl (hb hby own_d16_7) rfl q))) ?_
  show G T93 (mkF m 8 #[rv ar, iv 0, iv (Int32.ofNat cs.length), .unset, .unset] [(.int ((Int32.ofNat cs.length) - (0 : Int32)))])
  rw [own_sub0]
  show G T93 (mkF m 8 #[rv ar, iv 0, iv (Int32.ofNat cs.length), .unset, .unset] [(.int (Int32.ofNat cs.length))])
  refine hG.st (fun _ q => XS.istoreN S93.here hx rfl (hb hby own_d16_8) rfl (l' := #[rv ar, iv 0, iv (Int32.ofNat cs.length), iv (Int32.ofNat cs.length), .unset]) rfl (XS.iloadN S93.here hx rfl (hb hby own_d16_9) rfl q)) ?_
  show G T93 (mkF m 10 #[rv ar, iv 0, iv (Int32.ofNat cs.length), iv (Int32.ofNat cs.length), .unset] [(.int (Int32.ofNat cs.length))])
  refine Own.Sit.newP hG S93 hx (aty := .byte) (hW 20 _ rfl) rfl (hb hby own_d16_10) rfl (own_nn (by omega)) (cap := 16) (by rw [own_tn (by omega)]; omega) (by decide) (by decide) (by decide) (fun T94 h94 x94 k94 g_x94 S94 J94 Sf94 V94 => ?_)
  have lt_x94 := V94.lt
  have ga_x94 : Z.heap.size ≤ x94 := Nat.le_trans S93.le (Nat.le_of_eq g_x94.symm)
  refine hG.st (fun _ q => XS.astore S94.here hx rfl (hb hby own_d16_12) rfl rfl (l' := #[rv ar, iv 0, iv (Int32.ofNat cs.length), iv (Int32.ofNat cs.length), rv x94]) rfl (XS.aloadN S94.here hx rfl (hb hby own_d16_14) rfl rfl (XS.iloadN S94.here hx rfl (hb hby own_d16_15) rfl (XS.aload S94.here hx rfl (hb hby own_d16_16) rfl rfl (XS.iconst S94.here hx rfl (hb hby own_d16_18) (XS.aloadN S94.here hx rfl (hb hby own_d16_19) rfl rfl q)))))) ?_
  show G T94 (mkF m 20 #[rv ar, iv 0, iv (Int32.ofNat cs.length), iv (Int32.ofNat cs.length), rv x94] [(.ref ar), (.int 0), (.ref x94), (.int 0), (.ref ar)])
  have J95 : Own.Stp Z consts_1 vm0 h0 vm93 h94 [] := Own.Stp.trans J93 J94 (all0) all0
  have V96 := J95.arv A_r nin0
  refine Own.Sit.arraylength hG S94 hx V96 rfl rfl (hb hby own_d16_20) ?_
  show G T94 (mkF m 21 #[rv ar, iv 0, iv (Int32.ofNat cs.length), iv (Int32.ofNat cs.length), rv x94] [(.int 16), (.int 0), (.ref x94), (.int 0), (.ref ar)])
  refine hG.st (fun _ q => XS.iloadN S94.here hx rfl (hb hby own_d16_21) rfl (XS.isub S94.here hx rfl (hb hby own_d16_22) rfl (XS.iloadN S94.here hx rfl (hb hby own_d16_23) rfl q))) ?_
  show G T94 (mkF m 24 #[rv ar, iv 0, iv (Int32.ofNat cs.length), iv (Int32.ofNat cs.length), rv x94] [(.int (Int32.ofNat cs.length)), (.int 16), (.int 0), (.ref x94), (.int 0), (.ref ar)])
  refine Own.Sit.callS hG S94 hx hEL (as := [(.int 16), (.int (Int32.ofNat cs.length))]) (hW 196 _ rfl) (hW 197 _ rfl) (hW 198 _ rfl) (hW 199 _ rfl) (by decide) (own_min l Z a0 H (Int32.ofNat cs.length) h94 S94.old (own_l16 hl)) own_pdd33b19 rfl rfl (hz _ rfl) (rest := [(.int 0), (.ref x94), (.int 0), (.ref ar)]) rfl (W := 4) (Own.hw0 rfl rfl) (hb hby own_d16_24) (by decide) (by decide) (by decide) (by decide) (fun v97 vm97 T97 h97 S97 C97 q97 => ?_)
  obtain ⟨K97, rfl⟩ := q97
  have J97 : Own.Stp Z consts_1 vm93 h94 vm97 h97 [] := ⟨K97, C97⟩
  have V98 := J97.arv V96 nin0
  have V99 := J97.arv V94 nin0
  have Sf100 := J97.safe lt_x94 Sf94
  show G T97 (mkF m 27 #[rv ar, iv 0, iv (Int32.ofNat cs.length), iv (Int32.ofNat cs.length), rv x94] [(.int (Int32.ofNat cs.length)), (.int 0), (.ref x94), (.int 0), (.ref ar)])
  refine Own.Sit.cpA hG S97 hx (hW 200 _ rfl) (hW 137 _ rfl) (hW 135 _ rfl) (hW 136 _ rfl) V98 V99 rfl (by decide) (by decide) (own_nn (by omega)) (by rw [own_tn (by omega)]; show 0 + _ ≤ 16; omega) (Nat.le_of_eq (Nat.zero_add _)) (own_us2 (by omega)) (by rw [List.length_replicate]; exact Nat.le_of_eq (Nat.zero_add _)) ga_x94 Sf100 rfl (hz _ rfl) (rest := []) rfl (hb hby own_d16_27) (by decide) (W := 0) (Own.hw0 rfl rfl) (by decide) (fun T101 h101 S101 J101 V101 => ?_)
  have A101 : Arv Z h101 x94 k94 .byte (Int32.ofNat cs.length) (own_bv cs) (.int 0) := by
    have q := V101
    rw [own_tn (by omega)] at q
    have e : List.take (0 : Int32).toNatClampNeg (List.replicate cs.length (defaultValue (newarray.typeOf .byte))) ++ own_bv cs ++ List.drop ((0 : Int32).toNatClampNeg + cs.length) (List.replicate cs.length (defaultValue (newarray.typeOf .byte))) = own_bv cs := by
      rw [show (0 : Int32).toNatClampNeg = 0 from rfl, List.take_zero, List.nil_append, Nat.zero_add, List.drop_of_length_le (by rw [List.length_replicate]; exact Nat.le_refl _), List.append_nil]
    rw [e] at q
    exact q
  refine hG.st (fun _ q => XS.aload S101.here hx rfl (hb hby own_d16_30) rfl rfl q) ?_
  show G T101 (mkF m 32 #[rv ar, iv 0, iv (Int32.ofNat cs.length), iv (Int32.ofNat cs.length), rv x94] [(.ref x94)])
  have J102 : Own.Stp Z consts_1 vm0 h0 vm97 h97 [] := Own.Stp.trans J95 J97 (all0) all0
  have J103 : Own.Stp Z consts_1 vm0 h0 vm97 h101 [] := Own.Stp.trans J102 J101 (all0) (allS (Or.inr (Nat.le_trans J93.1.1 (Nat.le_of_eq g_x94.symm))) all0)
  exact Own.Sit.retO hR S101 hx hret rfl (Or.inr (Or.inr (Or.inr (Or.inr ⟨rfl, rfl, rfl⟩)))) (hb hby own_d16_32) (by decide) (by decide) ⟨J103.1, x94, _, rfl, (Nat.le_trans J93.1.1 (Nat.le_of_eq g_x94.symm)), A101⟩
theorem own_pn0a7e1a : plainFor (⟨"java/util/Arrays", "copyOfRange", "([BII)[B"⟩ : MethodName) = true := by first | exact plainFor_of_name (by first | (simp [plainName, overriddenIn]; done) | decide +kernel) | decide +kernel
theorem own_pd9c05a6 : parseMethodDescriptor "([BII)[B" = some ⟨[(.array .byte), .int, .int], some (.array .byte)⟩ := by decide +kernel
theorem own_d17_0 : decode jdk_65_method_132_code 0 = .ok (.iload_n 1, 1) := by decide +kernel
theorem own_d17_1 : decode jdk_65_method_132_code 1 = .ok (.ifCond .ne 9, 3) := by decide +kernel
theorem own_d17_4 : decode jdk_65_method_132_code 4 = .ok (.iload_n 2, 1) := by decide +kernel
theorem own_d17_5 : decode jdk_65_method_132_code 5 = .ok (.aload_n 0, 1) := by decide +kernel
theorem own_d17_6 : decode jdk_65_method_132_code 6 = .ok (.arraylength, 1) := by decide +kernel
theorem own_d17_7 : decode jdk_65_method_132_code 7 = .ok (.if_icmp .eq 10, 3) := by decide +kernel
theorem own_d17_10 : decode jdk_65_method_132_code 10 = .ok (.aload_n 0, 1) := by decide +kernel
theorem own_d17_11 : decode jdk_65_method_132_code 11 = .ok (.iload_n 1, 1) := by decide +kernel
theorem own_d17_12 : decode jdk_65_method_132_code 12 = .ok (.iload_n 2, 1) := by decide +kernel
theorem own_d17_13 : decode jdk_65_method_132_code 13 = .ok (.invokestatic 339, 3) := by decide +kernel
theorem own_d17_16 : decode jdk_65_method_132_code 16 = .ok (.areturn, 1) := by decide +kernel
theorem own_ef_own_cr (m : MethodId) (cs : List Int32) (ar : Addr) : entryFrame m #[(.ref ar), (.int 0), (.int (Int32.ofNat cs.length))] 3 = mkF m 0 #[rv ar, iv 0, iv (Int32.ofNat cs.length)] [] := by first | (simp [entryFrame, mkF, argsToLocals, Value.category]; done) | rfl
set_option maxRecDepth 65536 in
set_option maxHeartbeats 40000000 in
theorem own_cr (l : Launch) (Z : State) (a0 : Array Value) (H : own_Wld Z a0) {cw : List Jvm.Cond} (ar : Addr) (cs : List Int32) (h0 : Heap) (O0 : Ext Z.heap h0) {kv : ClassId} (A_r : Arv Z h0 ar kv .byte (16 : Int32) (own_buf cs) (.int 0)) (hl : cs.length ≤ 11) :
    Own.Con l Z consts_1 (⟨"java/util/Arrays", "copyOfRange", "([BII)[B"⟩ : MethodName) jdk_65_method_132_code 3 (some (.array .byte)) cw ({ frames := 2, cells := 1, slots := 16, locals := 56 } : Room) #[(.ref ar), (.int 0), (.int (Int32.ofNat cs.length))] h0 (fun v h => Keep h0 h [] ∧ ∃ t kb, v = some (.ref t) ∧ h0.size ≤ t ∧ Arv Z h t kb .byte (Int32.ofNat cs.length) (own_bv cs) (.int 0)) := by
  have hw := H.1
  have hW := fun (i : Nat) (w : Jvm.Cond) (e : tables_1[i]? = some w) => hw w (List.mem_of_getElem? e)
  have hCm := H.2.1
  have hSi := H.2.2.1
  have hEL := H.2.2.2
  have hWs : ∀ d ∈ StrChars.Road.words, d.before a0 Z = true := fun d hd => hw d (own_wbackV d hd)
  have hWl : ∀ d ∈ StrChars.Road.wordsLen, d.before a0 Z = true := fun d hd => hw d (own_wlenW d hd)
  have hSA : ∀ d ∈ Bundle.stringAtoms, d.before a0 Z = true := fun d hd => hw d (own_wSA d hd)
  refine Own.Con.of own_pn0a7e1a hEL O0 ?_
  intro p e s m below meth c T0 G vm0 hx hby hml hret hnm hG hR S0
  have hz : ∀ L : Array Slot, L.size = 3 → L.size = c.maxLocals := fun L q => q.trans hml.symm
  rw [own_ef_own_cr]
  show G T0 (mkF m 0 #[rv ar, iv 0, iv (Int32.ofNat cs.length)] [])
  refine hG.st (fun _ q => XS.iloadN S0.here hx rfl (hb hby own_d17_0) rfl (XS.ifNo S0.here hx rfl (hb hby own_d17_1) rfl ((if0 _ _).trans (teq (by decide : (0 : Int32) = (0 : Int32))).2) (XS.iloadN S0.here hx rfl (hb hby own_d17_4) rfl (XS.aloadN S0.here hx rfl (hb hby own_d17_5) rfl rfl q)))) ?_
  show G T0 (mkF m 6 #[rv ar, iv 0, iv (Int32.ofNat cs.length)] [(.ref ar), (.int (Int32.ofNat cs.length))])
  refine Own.Sit.arraylength hG S0 hx A_r rfl rfl (hb hby own_d17_6) ?_
  show G T0 (mkF m 7 #[rv ar, iv 0, iv (Int32.ofNat cs.length)] [(.int 16), (.int (Int32.ofNat cs.length))])
  refine hG.st (fun _ q => XS.icmpNo S0.here hx rfl (hb hby own_d17_7) rfl (feq (own_e16 hl : ¬ ((Int32.ofNat cs.length) = (16 : Int32)))).1 (XS.aloadN S0.here hx rfl (hb hby own_d17_10) rfl rfl (XS.iloadN S0.here hx rfl (hb hby own_d17_11) rfl (XS.iloadN S0.here hx rfl (hb hby own_d17_12) rfl q)))) ?_
  show G T0 (mkF m 13 #[rv ar, iv 0, iv (Int32.ofNat cs.length)] [(.int (Int32.ofNat cs.length)), (.int 0), (.ref ar)])
  refine Own.Sit.callS hG S0 hx hEL (as := [(.ref ar), (.int 0), (.int (Int32.ofNat cs.length))]) (hW 190 _ rfl) (hW 191 _ rfl) (hW 188 _ rfl) (hW 192 _ rfl) (by decide) (own_crb l Z a0 H ar cs h0 S0.old A_r hl) own_pd9c05a6 rfl rfl (hz _ rfl) (rest := []) rfl (W := 0) (Own.hw0 rfl rfl) (hb hby own_d17_13) (by decide) (by decide) (by decide) (by decide) (fun v104 vm104 T104 h104 S104 C104 q104 => ?_)
  obtain ⟨K104, t104, kb104, rfl, u104, A104⟩ := q104
  have J104 : Own.Stp Z consts_1 vm0 h0 vm104 h104 [] := ⟨K104, C104⟩
  show G T104 (mkF m 16 #[rv ar, iv 0, iv (Int32.ofNat cs.length)] [(.ref t104)])
  exact Own.Sit.retO hR S104 hx hret rfl (Or.inr (Or.inr (Or.inr (Or.inr ⟨rfl, rfl, rfl⟩)))) (hb hby own_d17_16) (by decide) (by decide) ⟨J104.1, t104, _, rfl, u104, A104⟩
theorem own_pn698eba : plainFor (⟨"java/lang/String", "<init>", "(Ljava/lang/AbstractStringBuilder;Ljava/lang/Void;)V"⟩ : MethodName) = true := by first | exact plainFor_of_name (by first | (simp [plainName, overriddenIn]; done) | decide +kernel) | decide +kernel
theorem own_pd4585f4 : parseMethodDescriptor "()[B" = some ⟨[], some (.array .byte)⟩ := by decide +kernel
theorem own_pdbfe1a5 : parseMethodDescriptor "()Z" = some ⟨[], some .boolean⟩ := by decide +kernel
theorem own_d18_0 : decode jdk_42_method_150_code 0 = .ok (.aload_n 0, 1) := by decide +kernel
theorem own_d18_1 : decode jdk_42_method_150_code 1 = .ok (.invokespecial 1, 3) := by decide +kernel
theorem own_d18_4 : decode jdk_42_method_150_code 4 = .ok (.aload_n 1, 1) := by decide +kernel
theorem own_d18_5 : decode jdk_42_method_150_code 5 = .ok (.invokevirtual 552, 3) := by decide +kernel
theorem own_d18_8 : decode jdk_42_method_150_code 8 = .ok (.astore_n 3, 1) := by decide +kernel
theorem own_d18_9 : decode jdk_42_method_150_code 9 = .ok (.aload_n 1, 1) := by decide +kernel
theorem own_d18_10 : decode jdk_42_method_150_code 10 = .ok (.invokevirtual 549, 3) := by decide +kernel
theorem own_d18_13 : decode jdk_42_method_150_code 13 = .ok (.istore 4, 2) := by decide +kernel
theorem own_d18_15 : decode jdk_42_method_150_code 15 = .ok (.aload_n 1, 1) := by decide +kernel
theorem own_d18_16 : decode jdk_42_method_150_code 16 = .ok (.invokevirtual 1047, 3) := by decide +kernel
theorem own_d18_19 : decode jdk_42_method_150_code 19 = .ok (.ifCond .eq 22, 3) := by decide +kernel
theorem own_d18_22 : decode jdk_42_method_150_code 22 = .ok (.aload_n 0, 1) := by decide +kernel
theorem own_d18_23 : decode jdk_42_method_150_code 23 = .ok (.iconst 0, 1) := by decide +kernel
theorem own_d18_24 : decode jdk_42_method_150_code 24 = .ok (.putfield 15, 3) := by decide +kernel
theorem own_d18_27 : decode jdk_42_method_150_code 27 = .ok (.aload_n 0, 1) := by decide +kernel
theorem own_d18_28 : decode jdk_42_method_150_code 28 = .ok (.aload_n 3, 1) := by decide +kernel
theorem own_d18_29 : decode jdk_42_method_150_code 29 = .ok (.iconst 0, 1) := by decide +kernel
theorem own_d18_30 : decode jdk_42_method_150_code 30 = .ok (.iload 4, 2) := by decide +kernel
theorem own_d18_32 : decode jdk_42_method_150_code 32 = .ok (.invokestatic 54, 3) := by decide +kernel
theorem own_d18_35 : decode jdk_42_method_150_code 35 = .ok (.putfield 9, 3) := by decide +kernel
theorem own_d18_38 : decode jdk_42_method_150_code 38 = .ok (.goto 59, 3) := by decide +kernel
theorem own_d18_97 : decode jdk_42_method_150_code 97 = .ok (.return_, 1) := by decide +kernel
theorem own_ef_own_iav (m : MethodId) (x : Addr) (b : Addr) : entryFrame m #[(.ref x), (.ref b), .null] 5 = mkF m 0 #[rv x, rv b, .val .null, .unset, .unset] [] := by first | (simp [entryFrame, mkF, argsToLocals, Value.category]; done) | rfl
set_option maxRecDepth 65536 in
set_option maxHeartbeats 40000000 in
theorem own_iav (l : Launch) (Z : State) (a0 : Array Value) (H : own_Wld Z a0) {cw : List Jvm.Cond} (x : Addr) (b : Addr) (ar : Addr) (cs : List Int32) (h0 : Heap) (O0 : Ext Z.heap h0) (g_x : Z.heap.size ≤ x) (E_x : Exa Z h0 x "java/lang/String") (Fv : Fld Z h0 x "java/lang/String" "value" "[B" .null) (Fc : Fld Z h0 x "java/lang/String" "coder" "B" (.int 0)) {kv : ClassId} (SB : own_SB Z h0 b ar kv cs) (hr : ∀ c ∈ cs, ¬ c < 0 ∧ ¬ (255 : Int32) < c) (hl : cs.length ≤ 11) :
    Own.Con l Z consts_1 (⟨"java/lang/String", "<init>", "(Ljava/lang/AbstractStringBuilder;Ljava/lang/Void;)V"⟩ : MethodName) jdk_42_method_150_code 5 none cw ({ frames := 3, cells := 1, slots := 16, locals := 71 } : Room) #[(.ref x), (.ref b), .null] h0 (fun v h => Keep h0 h [x] ∧ v = none ∧ ∃ t, Own.Str Z h x t cs) := by
  have hw := H.1
  have hW := fun (i : Nat) (w : Jvm.Cond) (e : tables_1[i]? = some w) => hw w (List.mem_of_getElem? e)
  have hCm := H.2.1
  have hSi := H.2.2.1
  have hEL := H.2.2.2
  have hWs : ∀ d ∈ StrChars.Road.words, d.before a0 Z = true := fun d hd => hw d (own_wbackV d hd)
  have hWl : ∀ d ∈ StrChars.Road.wordsLen, d.before a0 Z = true := fun d hd => hw d (own_wlenW d hd)
  have hSA : ∀ d ∈ Bundle.stringAtoms, d.before a0 Z = true := fun d hd => hw d (own_wSA d hd)
  refine Own.Con.of own_pn698eba hEL O0 ?_
  intro p e s m below meth c T0 G vm0 hx hby hml hret hnm hG hR S0
  have hz : ∀ L : Array Slot, L.size = 5 → L.size = c.maxLocals := fun L q => q.trans hml.symm
  rw [own_ef_own_iav]
  show G T0 (mkF m 0 #[rv x, rv b, .val .null, .unset, .unset] [])
  have sf_x : Safe Z consts_1 vm0 h0 x := Own.Safe.blank S0.warm.alike E_x Fv (hW 6 _ rfl)
  obtain ⟨E_b105, Fv_b105, Fc_b105, Fn_b105, A_r105⟩ := id SB
  refine hG.st (fun _ q => XS.aloadN S0.here hx rfl (hb hby own_d18_0) rfl rfl q) ?_
  show G T0 (mkF m 1 #[rv x, rv b, .val .null, .unset, .unset] [(.ref x)])
  refine Own.Sit.initO hG S0 hx (hW 16 _ rfl) (hW 17 _ rfl) (hW 18 _ rfl) rfl (hz _ rfl) rfl (hb hby own_d18_1) (by decide) (W := 0) (Own.hw0 rfl rfl) (by decide) (fun T106 S106 => ?_)
  refine hG.st (fun _ q => XS.aloadN S106.here hx rfl (hb hby own_d18_4) rfl rfl q) ?_
  show G T106 (mkF m 5 #[rv x, rv b, .val .null, .unset, .unset] [(.ref b)])
  have SB107 : own_SB Z h0 b ar kv cs := ⟨E_b105, Fv_b105, Fc_b105, Fn_b105, A_r105⟩
  refine Own.Sit.callV hG S106 hx hEL (as := []) (hW 172 _ rfl) (hW 173 _ rfl) (hW 175 _ rfl) (hW 174 _ rfl) (hW 88 _ rfl) (hW 176 _ rfl) (by decide) E_b105 (own_gv l Z a0 H b ar cs h0 S106.old SB107) own_pd4585f4 rfl rfl (hz _ rfl) (rest := []) rfl (W := 0) (Own.hw0 rfl rfl) (hb hby own_d18_5) (by decide) (by decide) (by decide) (by decide) (fun v108 vm108 T108 h108 S108 C108 q108 => ?_)
  obtain ⟨K108, rfl⟩ := q108
  have J108 : Own.Stp Z consts_1 vm0 h0 vm108 h108 [] := ⟨K108, C108⟩
  refine hG.st (fun _ q => XS.astoreN S108.here hx rfl (hb hby own_d18_8) rfl rfl (l' := #[rv x, rv b, .val .null, rv ar, .unset]) rfl (XS.aloadN S108.here hx rfl (hb hby own_d18_9) rfl rfl q)) ?_
  show G T108 (mkF m 10 #[rv x, rv b, .val .null, rv ar, .unset] [(.ref b)])
  have E109 := J108.exa E_b105
  have F110 := J108.fld Fv_b105 nin0
  have F111 := J108.fld Fc_b105 nin0
  have F112 := J108.fld Fn_b105 nin0
  have V113 := J108.arv A_r105 nin0
  have SB114 : own_SB Z h108 b ar kv cs := ⟨E109, F110, F111, F112, V113⟩
  refine Own.Sit.callVZ hG S108 hx hEL (as := []) (hW 177 _ rfl) (hW 178 _ rfl) (hW 180 _ rfl) (hW 116 _ rfl) rfl (hW 181 _ rfl) (hW 80 _ rfl) (hW 182 _ rfl) (by decide) E109 (own_bln l Z a0 H b ar cs h108 S108.old SB114) own_pd368a4b rfl rfl (hz _ rfl) (rest := []) rfl (W := 0) (Own.hw0 rfl rfl) (hb hby own_d18_10) (by decide) (by decide) (by decide) (by decide) (fun v115 vm115 T115 h115 S115 C115 q115 => ?_)
  obtain ⟨K115, rfl⟩ := q115
  have J115 : Own.Stp Z consts_1 vm108 h108 vm115 h115 [] := ⟨K115, C115⟩
  refine hG.st (fun _ q => XS.istore S115.here hx rfl (hb hby own_d18_13) rfl (l' := #[rv x, rv b, .val .null, rv ar, iv (Int32.ofNat cs.length)]) rfl (XS.aloadN S115.here hx rfl (hb hby own_d18_15) rfl rfl q)) ?_
  show G T115 (mkF m 16 #[rv x, rv b, .val .null, rv ar, iv (Int32.ofNat cs.length)] [(.ref b)])
  have E116 := J115.exa E109
  have F117 := J115.fld F110 nin0
  have F118 := J115.fld F111 nin0
  have F119 := J115.fld F112 nin0
  have V120 := J115.arv V113 nin0
  have SB121 : own_SB Z h115 b ar kv cs := ⟨E116, F117, F118, F119, V120⟩
  refine Own.Sit.callV hG S115 hx hEL (as := []) (hW 185 _ rfl) (hW 152 _ rfl) (hW 154 _ rfl) (hW 153 _ rfl) (hW 88 _ rfl) (hW 155 _ rfl) (by decide) E116 (own_alat l Z a0 H b ar cs h115 S115.old SB121) own_pdbfe1a5 rfl rfl (hz _ rfl) (rest := []) rfl (W := 0) (Own.hw0 rfl rfl) (hb hby own_d18_16) (by decide) (by decide) (by decide) (by decide) (fun v122 vm122 T122 h122 S122 C122 q122 => ?_)
  obtain ⟨K122, rfl⟩ := q122
  have J122 : Own.Stp Z consts_1 vm115 h115 vm122 h122 [] := ⟨K122, C122⟩
  refine hG.st (fun _ q => XS.ifNo S122.here hx rfl (hb hby own_d18_19) rfl ((if0 _ _).trans (feq (by decide : ¬ ((1 : Int32) = (0 : Int32)))).1) (XS.aloadN S122.here hx rfl (hb hby own_d18_22) rfl rfl (XS.iconst S122.here hx rfl (hb hby own_d18_23) q))) ?_
  show G T122 (mkF m 24 #[rv x, rv b, .val .null, rv ar, iv (Int32.ofNat cs.length)] [(.int 0), (.ref x)])
  have J123 : Own.Stp Z consts_1 vm0 h0 vm115 h115 [] := Own.Stp.trans J108 J115 (all0) all0
  have J124 : Own.Stp Z consts_1 vm0 h0 vm122 h122 [] := Own.Stp.trans J123 J122 (all0) all0
  have F125 := J124.fld Fc nin0
  have E126 := J124.exa E_x
  have Sf127 := J124.safe E_x.lt sf_x
  have F129 := J124.fld Fv nin0
  refine Own.Sit.putF hG S122 hx (host := "") (Or.inl (hW 26 _ rfl)) Via.refl F125 E126 (Or.inr ⟨(hW 22 _ rfl), rfl, hnm⟩) (hW 6 _ rfl) (ty := .byte) (by decide) rfl rfl g_x Sf127 rfl rfl (hb hby own_d18_24) (fun T128 h128 S128 J128 W128 F128 => ?_)
  have F130 := Fld.other W128 F129 (Or.inr (slot_ne (Or.inr (hW 21 _ rfl)) (Or.inr (hW 22 _ rfl)) (by decide) (t := (.array .byte)) (by decide) (t' := .byte) (by decide)))
  refine hG.st (fun _ q => XS.aloadN S128.here hx rfl (hb hby own_d18_27) rfl rfl (XS.aloadN S128.here hx rfl (hb hby own_d18_28) rfl rfl (XS.iconst S128.here hx rfl (hb hby own_d18_29) (XS.iload S128.here hx rfl (hb hby own_d18_30) rfl q)))) ?_
  show G T128 (mkF m 32 #[rv x, rv b, .val .null, rv ar, iv (Int32.ofNat cs.length)] [(.int (Int32.ofNat cs.length)), (.int 0), (.ref ar), (.ref x)])
  have J131 : Own.Stp Z consts_1 vm115 h115 vm122 h128 [x] := Own.Stp.trans J122 J128 (all0) (allS (Or.inl (List.mem_of_getElem? (i := 0) rfl)) all0)
  have V132 := J131.arv V120 (ninS (Ne.symm (Exa.neArv (J123.exa E_x) V120 (hW 6 _ rfl))) nin0)
  refine Own.Sit.callS hG S128 hx hEL (as := [(.ref ar), (.int 0), (.int (Int32.ofNat cs.length))]) (hW 186 _ rfl) (hW 187 _ rfl) (hW 188 _ rfl) (hW 189 _ rfl) (by decide) (own_cr l Z a0 H ar cs h128 S128.old V132 hl) own_pd9c05a6 rfl rfl (hz _ rfl) (rest := [(.ref x)]) rfl (W := 1) (Own.hw0 rfl rfl) (hb hby own_d18_32) (by decide) (by decide) (by decide) (by decide) (fun v133 vm133 T133 h133 S133 C133 q133 => ?_)
  obtain ⟨K133, t133, kb133, rfl, u133, A133⟩ := q133
  have J133 : Own.Stp Z consts_1 vm122 h128 vm133 h133 [] := ⟨K133, C133⟩
  have F134 := J133.fld F130 nin0
  have J135 : Own.Stp Z consts_1 vm122 h122 vm133 h133 [x] := Own.Stp.trans J128 J133 (allS (List.mem_of_getElem? (i := 0) rfl) (all0)) all0
  have E136 := J135.exa E126
  have Sf137 := J135.safe (Nat.lt_of_lt_of_le E_x.lt J124.1.1) Sf127
  have F139 := J133.fld F128 nin0
  show G T133 (mkF m 35 #[rv x, rv b, .val .null, rv ar, iv (Int32.ofNat cs.length)] [(.ref t133), (.ref x)])
  refine Own.Sit.putF hG S133 hx (host := "") (Or.inl (hW 25 _ rfl)) Via.refl F134 E136 (Or.inr ⟨(hW 21 _ rfl), rfl, hnm⟩) (hW 6 _ rfl) (ty := (.array .byte)) (by decide) rfl rfl g_x Sf137 rfl rfl (hb hby own_d18_35) (fun T138 h138 S138 J138 W138 F138 => ?_)
  have F140 := Fld.other W138 F139 (Or.inr (slot_ne (Or.inr (hW 22 _ rfl)) (Or.inr (hW 21 _ rfl)) (by decide) (t := .byte) (by decide) (t' := (.array .byte)) (by decide)))
  refine hG.st (fun _ q => XS.goto S138.here hx rfl (pc0 := 38) (pc' := 97) rfl (hb hby own_d18_38) (by decide) (by decide) q) ?_
  show G T138 (mkF m 97 #[rv x, rv b, .val .null, rv ar, iv (Int32.ofNat cs.length)] [])
  have J141 : Own.Stp Z consts_1 vm0 h0 vm122 h128 [x] := Own.Stp.trans J124 J128 (all0) (allS (Or.inl (List.mem_of_getElem? (i := 0) rfl)) all0)
  have J142 : Own.Stp Z consts_1 vm0 h0 vm133 h133 [x] := Own.Stp.trans J141 J133 (allS (List.mem_of_getElem? (i := 0) rfl) (all0)) all0
  have J143 : Own.Stp Z consts_1 vm0 h0 vm133 h138 [x] := Own.Stp.trans J142 J138 (allS (List.mem_of_getElem? (i := 0) rfl) (all0)) (allS (Or.inl (List.mem_of_getElem? (i := 0) rfl)) all0)
  have E144 := J138.exa E136
  have V145 := J138.arv A133 (ninS (Ne.symm (Exa.neArv (J142.exa E_x) A133 (hW 6 _ rfl))) nin0)
  exact Own.Sit.ret0 hR S138 hx hret (hb hby own_d18_97) (by decide) (by decide) ⟨J143.1, rfl, t133, _, E144, F138, F140, V145, hr, by omega⟩
theorem own_pnbdab32 : plainFor (⟨"java/lang/String", "<init>", "(Ljava/lang/StringBuilder;)V"⟩ : MethodName) = true := by first | exact plainFor_of_name (by first | (simp [plainName, overriddenIn]; done) | decide +kernel) | decide +kernel
theorem own_pd79c166 : parseMethodDescriptor "(Ljava/lang/AbstractStringBuilder;Ljava/lang/Void;)V" = some ⟨[(.object "java/lang/AbstractStringBuilder"), (.object "java/lang/Void")], none⟩ := by decide +kernel
theorem own_d19_0 : decode jdk_42_method_53_code 0 = .ok (.aload_n 0, 1) := by decide +kernel
theorem own_d19_1 : decode jdk_42_method_53_code 1 = .ok (.aload_n 1, 1) := by decide +kernel
theorem own_d19_2 : decode jdk_42_method_53_code 2 = .ok (.aconst_null, 1) := by decide +kernel
theorem own_d19_3 : decode jdk_42_method_53_code 3 = .ok (.invokespecial 489, 3) := by decide +kernel
theorem own_d19_6 : decode jdk_42_method_53_code 6 = .ok (.return_, 1) := by decide +kernel
theorem own_ef_own_isb (m : MethodId) (x : Addr) (b : Addr) : entryFrame m #[(.ref x), (.ref b)] 2 = mkF m 0 #[rv x, rv b] [] := by first | (simp [entryFrame, mkF, argsToLocals, Value.category]; done) | rfl
set_option maxRecDepth 65536 in
set_option maxHeartbeats 40000000 in
theorem own_isb (l : Launch) (Z : State) (a0 : Array Value) (H : own_Wld Z a0) {cw : List Jvm.Cond} (x : Addr) (b : Addr) (ar : Addr) (cs : List Int32) (h0 : Heap) (O0 : Ext Z.heap h0) (g_x : Z.heap.size ≤ x) (E_x : Exa Z h0 x "java/lang/String") (Fv : Fld Z h0 x "java/lang/String" "value" "[B" .null) (Fc : Fld Z h0 x "java/lang/String" "coder" "B" (.int 0)) {kv : ClassId} (SB : own_SB Z h0 b ar kv cs) (hr : ∀ c ∈ cs, ¬ c < 0 ∧ ¬ (255 : Int32) < c) (hl : cs.length ≤ 11) :
    Own.Con l Z consts_1 (⟨"java/lang/String", "<init>", "(Ljava/lang/StringBuilder;)V"⟩ : MethodName) jdk_42_method_53_code 2 none cw ({ frames := 4, cells := 1, slots := 16, locals := 87 } : Room) #[(.ref x), (.ref b)] h0 (fun v h => Keep h0 h [x] ∧ v = none ∧ ∃ t, Own.Str Z h x t cs) := by
  have hw := H.1
  have hW := fun (i : Nat) (w : Jvm.Cond) (e : tables_1[i]? = some w) => hw w (List.mem_of_getElem? e)
  have hCm := H.2.1
  have hSi := H.2.2.1
  have hEL := H.2.2.2
  have hWs : ∀ d ∈ StrChars.Road.words, d.before a0 Z = true := fun d hd => hw d (own_wbackV d hd)
  have hWl : ∀ d ∈ StrChars.Road.wordsLen, d.before a0 Z = true := fun d hd => hw d (own_wlenW d hd)
  have hSA : ∀ d ∈ Bundle.stringAtoms, d.before a0 Z = true := fun d hd => hw d (own_wSA d hd)
  refine Own.Con.of own_pnbdab32 hEL O0 ?_
  intro p e s m below meth c T0 G vm0 hx hby hml hret hnm hG hR S0
  have hz : ∀ L : Array Slot, L.size = 2 → L.size = c.maxLocals := fun L q => q.trans hml.symm
  rw [own_ef_own_isb]
  show G T0 (mkF m 0 #[rv x, rv b] [])
  have sf_x : Safe Z consts_1 vm0 h0 x := Own.Safe.blank S0.warm.alike E_x Fv (hW 6 _ rfl)
  obtain ⟨E_b146, Fv_b146, Fc_b146, Fn_b146, A_r146⟩ := id SB
  refine hG.st (fun _ q => XS.aloadN S0.here hx rfl (hb hby own_d19_0) rfl rfl (XS.aloadN S0.here hx rfl (hb hby own_d19_1) rfl rfl (XS.aconstNull S0.here hx rfl (hb hby own_d19_2) q))) ?_
  show G T0 (mkF m 3 #[rv x, rv b] [.null, (.ref b), (.ref x)])
  have SB147 : own_SB Z h0 b ar kv cs := ⟨E_b146, Fv_b146, Fc_b146, Fn_b146, A_r146⟩
  refine Own.Sit.callI hG S0 hx hEL rfl (as := [(.ref b), .null]) (hW 169 _ rfl) (hW 170 _ rfl) (hW 7 _ rfl) (hW 171 _ rfl) (by decide) (own_iav l Z a0 H x b ar cs h0 S0.old g_x E_x Fv Fc SB147 hr hl) own_pd79c166 rfl rfl (hz _ rfl) (rest := []) rfl (W := 0) (Own.hw0 rfl rfl) (hb hby own_d19_3) (by decide) (by decide) (by decide) (by decide) (fun v148 vm148 T148 h148 S148 C148 q148 => ?_)
  obtain ⟨K148, rfl, y148, St148⟩ := q148
  have J148 : Own.Stp Z consts_1 vm0 h0 vm148 h148 [x] := ⟨K148, C148⟩
  show G T148 (mkF m 6 #[rv x, rv b] [])
  exact Own.Sit.ret0 hR S148 hx hret (hb hby own_d19_6) (by decide) (by decide) ⟨J148.1, rfl, _, St148⟩
theorem own_pn3355bb : plainFor (⟨"java/lang/StringBuilder", "toString", "()Ljava/lang/String;"⟩ : MethodName) = true := by first | exact plainFor_of_name (by first | (simp [plainName, overriddenIn]; done) | decide +kernel) | decide +kernel
theorem own_pdd8ceaa : parseMethodDescriptor "(Ljava/lang/StringBuilder;)V" = some ⟨[(.object "java/lang/StringBuilder")], none⟩ := by decide +kernel
theorem own_d20_0 : decode jdk_67_method_42_code 0 = .ok (.new 18, 3) := by decide +kernel
theorem own_d20_3 : decode jdk_67_method_42_code 3 = .ok (.dup, 1) := by decide +kernel
theorem own_d20_4 : decode jdk_67_method_42_code 4 = .ok (.aload_n 0, 1) := by decide +kernel
theorem own_d20_5 : decode jdk_67_method_42_code 5 = .ok (.invokespecial 137, 3) := by decide +kernel
theorem own_d20_8 : decode jdk_67_method_42_code 8 = .ok (.areturn, 1) := by decide +kernel
theorem own_ef_own_tsb (m : MethodId) (b : Addr) : entryFrame m #[(.ref b)] 1 = mkF m 0 #[rv b] [] := by first | (simp [entryFrame, mkF, argsToLocals, Value.category]; done) | rfl
set_option maxRecDepth 65536 in
set_option maxHeartbeats 40000000 in
theorem own_tsb (l : Launch) (Z : State) (a0 : Array Value) (H : own_Wld Z a0) {cw : List Jvm.Cond} (b : Addr) (ar : Addr) (cs : List Int32) (h0 : Heap) (O0 : Ext Z.heap h0) {kv : ClassId} (SB : own_SB Z h0 b ar kv cs) (hr : ∀ c ∈ cs, ¬ c < 0 ∧ ¬ (255 : Int32) < c) (hl : cs.length ≤ 11) :
    Own.Con l Z consts_1 (⟨"java/lang/StringBuilder", "toString", "()Ljava/lang/String;"⟩ : MethodName) jdk_67_method_42_code 1 (some (.object "java/lang/String")) cw ({ frames := 5, cells := 2, slots := 20, locals := 101 } : Room) #[(.ref b)] h0 (fun v h => Keep h0 h [] ∧ ∃ x t, v = some (.ref x) ∧ Own.Str Z h x t cs ∧ h0.size ≤ x) := by
  have hw := H.1
  have hW := fun (i : Nat) (w : Jvm.Cond) (e : tables_1[i]? = some w) => hw w (List.mem_of_getElem? e)
  have hCm := H.2.1
  have hSi := H.2.2.1
  have hEL := H.2.2.2
  have hWs : ∀ d ∈ StrChars.Road.words, d.before a0 Z = true := fun d hd => hw d (own_wbackV d hd)
  have hWl : ∀ d ∈ StrChars.Road.wordsLen, d.before a0 Z = true := fun d hd => hw d (own_wlenW d hd)
  have hSA : ∀ d ∈ Bundle.stringAtoms, d.before a0 Z = true := fun d hd => hw d (own_wSA d hd)
  refine Own.Con.of own_pn3355bb hEL O0 ?_
  intro p e s m below meth c T0 G vm0 hx hby hml hret hnm hG hR S0
  have hz : ∀ L : Array Slot, L.size = 1 → L.size = c.maxLocals := fun L q => q.trans hml.symm
  rw [own_ef_own_tsb]
  show G T0 (mkF m 0 #[rv b] [])
  obtain ⟨E_b149, Fv_b149, Fc_b149, Fn_b149, A_r149⟩ := id SB
  refine Own.Sit.newO hG S0 hx (hW 165 _ rfl) (hW 6 _ rfl) (hW 7 _ rfl) rfl (hb hby own_d20_0) (by decide) (by decide) (fun T150 h150 x150 g_x150 S150 J150 Sf150 E150 D150 => ?_)
  have lt_x150 := E150.lt
  have ga_x150 : Z.heap.size ≤ x150 := Nat.le_trans S0.le (Nat.le_of_eq g_x150.symm)
  have F151 : Fld Z h150 x150 "java/lang/String" "value" "[B" .null := D150 (Or.inr (hW 21 _ rfl)) (ty := (.array .byte)) (by decide)
  have F152 : Fld Z h150 x150 "java/lang/String" "coder" "B" (.int 0) := D150 (Or.inr (hW 22 _ rfl)) (ty := .byte) (by decide)
  refine hG.st (fun _ q => XS.dup S150.here hx rfl (hb hby own_d20_3) rfl rfl (XS.aloadN S150.here hx rfl (hb hby own_d20_4) rfl rfl q)) ?_
  show G T150 (mkF m 5 #[rv b] [(.ref b), (.ref x150), (.ref x150)])
  have E153 := J150.exa E_b149
  have F154 := J150.fld Fv_b149 nin0
  have F155 := J150.fld Fc_b149 nin0
  have F156 := J150.fld Fn_b149 nin0
  have V157 := J150.arv A_r149 nin0
  have SB158 : own_SB Z h150 b ar kv cs := ⟨E153, F154, F155, F156, V157⟩
  refine Own.Sit.callI hG S150 hx hEL rfl (as := [(.ref b)]) (hW 166 _ rfl) (hW 167 _ rfl) (hW 7 _ rfl) (hW 168 _ rfl) (by decide) (own_isb l Z a0 H x150 b ar cs h150 S150.old ga_x150 E150 F151 F152 SB158 hr hl) own_pdd8ceaa rfl rfl (hz _ rfl) (rest := [(.ref x150)]) rfl (W := 1) (Own.hw0 rfl rfl) (hb hby own_d20_5) (by decide) (by decide) (by decide) (by decide) (fun v159 vm159 T159 h159 S159 C159 q159 => ?_)
  obtain ⟨K159, rfl, y159, St159⟩ := q159
  have J159 : Own.Stp Z consts_1 vm0 h150 vm159 h159 [x150] := ⟨K159, C159⟩
  have J160 : Own.Stp Z consts_1 vm0 h0 vm159 h159 [] := Own.Stp.trans J150 J159 (all0) (allS (Or.inr (Nat.le_of_eq g_x150.symm)) all0)
  show G T159 (mkF m 8 #[rv b] [(.ref x150)])
  exact Own.Sit.retO hR S159 hx hret rfl (Or.inr (Or.inr (Or.inr (Or.inr ⟨rfl, rfl, rfl⟩)))) (hb hby own_d20_8) (by decide) (by decide) ⟨J160.1, x150, _, rfl, St159, (Nat.le_of_eq g_x150.symm)⟩
theorem own_dv {x c : Int32} (h0 : 0 ≤ x.toInt) (hc : 0 < c.toInt) : (x / c).toInt = x.toInt / c.toInt := by
  have hne : c ≠ -1 := fun q => by subst q; exact absurd hc (by decide)
  rw [Int32.toInt_div_of_ne_right _ _ hne, Int.tdiv_eq_ediv_of_nonneg h0]
theorem own_md {x c : Int32} (h0 : 0 ≤ x.toInt) : (x % c).toInt = x.toInt % c.toInt := by
  rw [Int32.toInt_mod, Int.tmod_eq_emod_of_nonneg h0]
theorem own_neg {x : Int32} (h : -65536 ≤ x.toInt ∧ x.toInt ≤ 65536) : (-x).toInt = -x.toInt := by
  have a := c_ineg x
  have r := rng32 (-x)
  omega
theorem own_g1 {x : Int32} {P : Int} (h : x.toInt = -P) (h0 : 0 ≤ P ∧ P ≤ 65535) : (x / 100).toInt = -(P / 100) ∧ ((x / 100) * 100 - x).toInt = P % 100 := by
  have e : (100 : Int32).toInt = 100 := rfl
  have d : (x / 100).toInt = -(P / 100) := by
    rw [Int32.toInt_div_of_ne_right _ _ (by decide), h, e, Int.neg_tdiv, Int.tdiv_eq_ediv_of_nonneg h0.1]
  refine ⟨d, ?_⟩
  have a := c_imul (x / 100) 100
  have b := c_isub ((x / 100) * 100) x
  have r1 := rng32 ((x / 100) * 100)
  have r2 := rng32 ((x / 100) * 100 - x)
  rw [d, e] at a
  rw [h] at b
  omega
theorem own_nar {z : Int32} (h0 : 0 ≤ z.toInt) (h1 : z.toInt ≤ 65535) : z.toUInt32.toUInt16.toUInt32.toInt32 = z := by
  have q := c_i2c z
  apply Int32.toInt_inj.mp
  omega
theorem own_d48 {a : Int32} (h0 : 0 ≤ a.toInt) (h1 : a.toInt ≤ 9) : ((48 : Int32) + a).toInt = 48 + a.toInt := by
  have e : (48 : Int32).toInt = 48 := rfl
  have q := c_iadd 48 a
  have r := rng32 (48 + a)
  rw [e] at q
  omega
def own_ones : List Value := (List.range 100).map fun i => .int ((48 : Int32) + Int32.ofNat i % 10)
def own_tens : List Value := (List.range 100).map fun i => .int ((48 : Int32) + Int32.ofNat i / 10)
theorem own_i100 {j : Int32} (h : ¬ j < 0 ∧ j < 100) : j.toNatClampNeg < 100 ∧ Int32.ofNat j.toNatClampNeg = j := by
  have e0 : (0 : Int32).toInt = 0 := rfl
  have e1 : (100 : Int32).toInt = 100 := rfl
  simp only [Int32.lt_iff_toInt_lt, e0, e1] at h
  have q : j.toNatClampNeg < 100 := by simp only [Int32.toNatClampNeg]; omega
  refine ⟨q, Int32.toInt_inj.mp ?_⟩
  rw [own_ti (by omega)]
  simp only [Int32.toNatClampNeg]; omega
theorem own_ones_at {j : Int32} (h : ¬ j < 0 ∧ j < 100) : own_ones.getD j.toNatClampNeg (.int 0) = .int ((48 : Int32) + j % 10) := by
  obtain ⟨q, e⟩ := own_i100 h
  have l : own_ones.length = 100 := by simp [own_ones]
  rw [List.getD_eq_getElem?_getD, List.getElem?_eq_getElem (by rw [l]; exact q)]
  simp [own_ones, e]
theorem own_tens_at {j : Int32} (h : ¬ j < 0 ∧ j < 100) : own_tens.getD j.toNatClampNeg (.int 0) = .int ((48 : Int32) + j / 10) := by
  obtain ⟨q, e⟩ := own_i100 h
  have l : own_tens.length = 100 := by simp [own_tens]
  rw [List.getD_eq_getElem?_getD, List.getElem?_eq_getElem (by rw [l]; exact q)]
  simp [own_tens, e]
def own_Dig (Z : State) (d1 d2 : Addr) (k1 k2 : ClassId) : Prop := Sta Z Z.heap "java/lang/Integer" "DigitOnes" "[B" (.ref d1) ∧ Arv Z Z.heap d1 k1 .byte (100 : Int32) own_ones (.int 0) ∧ Sta Z Z.heap "java/lang/Integer" "DigitTens" "[B" (.ref d2) ∧ Arv Z Z.heap d2 k2 .byte (100 : Int32) own_tens (.int 0)
theorem own_dec (n : Nat) : Int32.ofNat (n + 1) + (-1 : Int32) = Int32.ofNat n := by
  rw [Int32.ofNat_add]
  have e : (Int32.ofNat 1 : Int32) = 1 := rfl
  rw [e]
  grind
theorem own_idx {n : Nat} (h : n < 16) : ¬ Int32.ofNat n < 0 ∧ Int32.ofNat n < 16 := by
  have e : (16 : Int32).toInt = 16 := rfl
  refine ⟨own_nn (by omega), ?_⟩
  rw [Int32.lt_iff_toInt_lt, own_ti (by omega), e]; omega
theorem own_bset {cs : List Int32} (j : Nat) (v : Value) (r : List Value) : (own_bv cs ++ r).set (cs.length + j) v = own_bv cs ++ r.set j v := by
  rw [List.set_append_right _ _ (by rw [own_bvl]; omega), own_bvl, Nat.add_sub_cancel_left]
theorem own_fill {cs ds : List Int32} {r : List Value} (hr : r = own_bv ds ++ List.replicate (16 - cs.length - ds.length) (.int 0)) : own_bv cs ++ r = own_buf (cs ++ ds) := by
  rw [hr, own_buf, own_bva, List.length_append, List.append_assoc, Nat.sub_sub]
theorem own_t10 {x : Int32} (h : 0 ≤ x.toInt) : (x % 10).toInt = x.toInt % 10 ∧ (x / 10).toInt = x.toInt / 10 := ⟨own_md (c := 10) h, own_dv (c := 10) h (by decide)⟩
theorem own_p {p : Int32} (h : 0 ≤ p.toInt) : (p % 10).toInt = p.toInt % 10 ∧ (p / 10 % 10).toInt = p.toInt / 10 % 10 ∧ (p / 100 % 10).toInt = p.toInt / 100 % 10 ∧ (p / 1000 % 10).toInt = p.toInt / 1000 % 10 ∧ (p / 10000).toInt = p.toInt / 10000 := by
  have a1 : (p / 10).toInt = p.toInt / 10 := own_dv (c := 10) h (by decide)
  have a2 : (p / 100).toInt = p.toInt / 100 := own_dv (c := 100) h (by decide)
  have a3 : (p / 1000).toInt = p.toInt / 1000 := own_dv (c := 1000) h (by decide)
  have a4 : (p / 10000).toInt = p.toInt / 10000 := own_dv (c := 10000) h (by decide)
  refine ⟨own_md (c := 10) h, ?_, ?_, ?_, a4⟩
  · rw [← a1]; exact own_md (c := 10) (by omega)
  · rw [← a2]; exact own_md (c := 10) (by omega)
  · rw [← a3]; exact own_md (c := 10) (by omega)
def own_dig1 (p : Int32) : List Int32 := [48 + p % 10]
def own_dig2 (p : Int32) : List Int32 := [48 + p / 10 % 10, 48 + p % 10]
def own_dig3 (p : Int32) : List Int32 := [48 + p / 100 % 10, 48 + p / 10 % 10, 48 + p % 10]
def own_dig4 (p : Int32) : List Int32 := [48 + p / 1000 % 10, 48 + p / 100 % 10, 48 + p / 10 % 10, 48 + p % 10]
def own_dig5 (p : Int32) : List Int32 := [48 + p / 10000, 48 + p / 1000 % 10, 48 + p / 100 % 10, 48 + p / 10 % 10, 48 + p % 10]
theorem own_lst1 {cs : List Int32} (e0 : Int32) (h : cs.length + 1 ≤ 16) : ((own_buf cs).set (cs.length + 0) (.int (nar .byte e0))) = own_buf (cs ++ [e0]) := by
  obtain ⟨m, hm⟩ : ∃ m, 16 - cs.length = m + 1 := ⟨16 - cs.length - 1, by omega⟩
  rw [own_buf, hm]
  simp only [own_bset]
  refine own_fill ?_
  rw [hm]
  simp [List.replicate_succ, own_bv]
  rfl
theorem own_lst2 {cs : List Int32} (e0 e1 : Int32) (h : cs.length + 2 ≤ 16) : (((own_buf cs).set (cs.length + 1) (.int (nar .byte e1))).set (cs.length + 0) (.int (nar .byte e0))) = own_buf (cs ++ [e0, e1]) := by
  obtain ⟨m, hm⟩ : ∃ m, 16 - cs.length = m + 2 := ⟨16 - cs.length - 2, by omega⟩
  rw [own_buf, hm]
  simp only [own_bset]
  refine own_fill ?_
  rw [hm]
  simp [List.replicate_succ, own_bv]
  exact ⟨rfl, rfl⟩
theorem own_lst3 {cs : List Int32} (e0 e1 e2 : Int32) (h : cs.length + 3 ≤ 16) : ((((own_buf cs).set (cs.length + 2) (.int (nar .byte e2))).set (cs.length + 1) (.int (nar .byte e1))).set (cs.length + 0) (.int (nar .byte e0))) = own_buf (cs ++ [e0, e1, e2]) := by
  obtain ⟨m, hm⟩ : ∃ m, 16 - cs.length = m + 3 := ⟨16 - cs.length - 3, by omega⟩
  rw [own_buf, hm]
  simp only [own_bset]
  refine own_fill ?_
  rw [hm]
  simp [List.replicate_succ, own_bv]
  exact ⟨rfl, rfl, rfl⟩
theorem own_lst4 {cs : List Int32} (e0 e1 e2 e3 : Int32) (h : cs.length + 4 ≤ 16) : (((((own_buf cs).set (cs.length + 3) (.int (nar .byte e3))).set (cs.length + 2) (.int (nar .byte e2))).set (cs.length + 1) (.int (nar .byte e1))).set (cs.length + 0) (.int (nar .byte e0))) = own_buf (cs ++ [e0, e1, e2, e3]) := by
  obtain ⟨m, hm⟩ : ∃ m, 16 - cs.length = m + 4 := ⟨16 - cs.length - 4, by omega⟩
  rw [own_buf, hm]
  simp only [own_bset]
  refine own_fill ?_
  rw [hm]
  simp [List.replicate_succ, own_bv]
  exact ⟨rfl, rfl, rfl, rfl⟩
theorem own_lst5 {cs : List Int32} (e0 e1 e2 e3 e4 : Int32) (h : cs.length + 5 ≤ 16) : ((((((own_buf cs).set (cs.length + 4) (.int (nar .byte e4))).set (cs.length + 3) (.int (nar .byte e3))).set (cs.length + 2) (.int (nar .byte e2))).set (cs.length + 1) (.int (nar .byte e1))).set (cs.length + 0) (.int (nar .byte e0))) = own_buf (cs ++ [e0, e1, e2, e3, e4]) := by
  obtain ⟨m, hm⟩ : ∃ m, 16 - cs.length = m + 5 := ⟨16 - cs.length - 5, by omega⟩
  rw [own_buf, hm]
  simp only [own_bset]
  refine own_fill ?_
  rw [hm]
  simp [List.replicate_succ, own_bv]
  exact ⟨rfl, rfl, rfl, rfl, rfl⟩
theorem own_pn39fe1f : plainFor (⟨"java/lang/Integer", "stringSize", "(I)I"⟩ : MethodName) = true := by first | exact plainFor_of_name (by first | (simp [plainName, overriddenIn]; done) | decide +kernel) | decide +kernel
theorem own_d21_0 : decode jdk_33_method_13_code 0 = .ok (.iconst 1, 1) := by decide +kernel
theorem own_d21_1 : decode jdk_33_method_13_code 1 = .ok (.istore_n 1, 1) := by decide +kernel
theorem own_d21_2 : decode jdk_33_method_13_code 2 = .ok (.iload_n 0, 1) := by decide +kernel
theorem own_d21_3 : decode jdk_33_method_13_code 3 = .ok (.ifCond .lt 8, 3) := by decide +kernel
theorem own_d21_6 : decode jdk_33_method_13_code 6 = .ok (.iconst 0, 1) := by decide +kernel
theorem own_d21_7 : decode jdk_33_method_13_code 7 = .ok (.istore_n 1, 1) := by decide +kernel
theorem own_d21_8 : decode jdk_33_method_13_code 8 = .ok (.iload_n 0, 1) := by decide +kernel
theorem own_d21_9 : decode jdk_33_method_13_code 9 = .ok (.ineg, 1) := by decide +kernel
theorem own_d21_10 : decode jdk_33_method_13_code 10 = .ok (.istore_n 0, 1) := by decide +kernel
theorem own_d21_11 : decode jdk_33_method_13_code 11 = .ok (.bipush (-10), 2) := by decide +kernel
theorem own_d21_13 : decode jdk_33_method_13_code 13 = .ok (.istore_n 2, 1) := by decide +kernel
theorem own_d21_14 : decode jdk_33_method_13_code 14 = .ok (.iconst 1, 1) := by decide +kernel
theorem own_d21_15 : decode jdk_33_method_13_code 15 = .ok (.istore_n 3, 1) := by decide +kernel
theorem own_d21_16 : decode jdk_33_method_13_code 16 = .ok (.iload_n 3, 1) := by decide +kernel
theorem own_d21_17 : decode jdk_33_method_13_code 17 = .ok (.bipush 10, 2) := by decide +kernel
theorem own_d21_19 : decode jdk_33_method_13_code 19 = .ok (.if_icmp .ge 23, 3) := by decide +kernel
theorem own_d21_22 : decode jdk_33_method_13_code 22 = .ok (.iload_n 0, 1) := by decide +kernel
theorem own_d21_23 : decode jdk_33_method_13_code 23 = .ok (.iload_n 2, 1) := by decide +kernel
theorem own_d21_24 : decode jdk_33_method_13_code 24 = .ok (.if_icmp .le 7, 3) := by decide +kernel
theorem own_d21_27 : decode jdk_33_method_13_code 27 = .ok (.iload_n 3, 1) := by decide +kernel
theorem own_d21_28 : decode jdk_33_method_13_code 28 = .ok (.iload_n 1, 1) := by decide +kernel
theorem own_d21_29 : decode jdk_33_method_13_code 29 = .ok (.iadd, 1) := by decide +kernel
theorem own_d21_30 : decode jdk_33_method_13_code 30 = .ok (.ireturn, 1) := by decide +kernel
theorem own_ef_own_ssz1 (m : MethodId) (pt : Int32) : entryFrame m #[(.int pt)] 4 = mkF m 0 #[iv pt, .unset, .unset, .unset] [] := by first | (simp [entryFrame, mkF, argsToLocals, Value.category]; done) | rfl
set_option maxRecDepth 65536 in
set_option maxHeartbeats 40000000 in
theorem own_ssz1 (l : Launch) (Z : State) (a0 : Array Value) (H : own_Wld Z a0) {cw : List Jvm.Cond} (pt : Int32) (h0 : Heap) (O0 : Ext Z.heap h0) (hp : 0 ≤ pt.toInt ∧ pt.toInt ≤ 9) :
    Own.Con l Z consts_1 (⟨"java/lang/Integer", "stringSize", "(I)I"⟩ : MethodName) jdk_33_method_13_code 4 (some .int) cw ({ frames := 0, cells := 0, slots := 0, locals := 0 } : Room) #[(.int pt)] h0 (fun v h => Keep h0 h [] ∧ v = some (.int 1)) := by
  have hw := H.1
  have hW := fun (i : Nat) (w : Jvm.Cond) (e : tables_1[i]? = some w) => hw w (List.mem_of_getElem? e)
  have hCm := H.2.1
  have hSi := H.2.2.1
  have hEL := H.2.2.2
  have hWs : ∀ d ∈ StrChars.Road.words, d.before a0 Z = true := fun d hd => hw d (own_wbackV d hd)
  have hWl : ∀ d ∈ StrChars.Road.wordsLen, d.before a0 Z = true := fun d hd => hw d (own_wlenW d hd)
  have hSA : ∀ d ∈ Bundle.stringAtoms, d.before a0 Z = true := fun d hd => hw d (own_wSA d hd)
  refine Own.Con.of own_pn39fe1f hEL O0 ?_
  intro p e s m below meth c T0 G vm0 hx hby hml hret hnm hG hR S0
  have hz : ∀ L : Array Slot, L.size = 4 → L.size = c.maxLocals := fun L q => q.trans hml.symm
  rw [own_ef_own_ssz1]
  show G T0 (mkF m 0 #[iv pt, .unset, .unset, .unset] [])
  refine hG.st (fun _ q => XS.iconst S0.here hx rfl (hb hby own_d21_0) (XS.istoreN S0.here hx rfl (hb hby own_d21_1) rfl (l' := #[iv pt, iv 1, .unset, .unset]) rfl (XS.iloadN S0.here hx rfl (hb hby own_d21_2) rfl (XS.ifNo S0.here hx rfl (hb hby own_d21_3) rfl ((if0 _ _).trans (flt ((by rw [Int32.lt_iff_toInt_lt, show (0 : Int32).toInt = 0 from by decide]; omega) : ¬ (pt < (0 : Int32)))).1) (XS.iconst S0.here hx rfl (hb hby own_d21_6) (XS.istoreN S0.here hx rfl (hb hby own_d21_7) rfl (l' := #[iv pt, iv 0, .unset, .unset]) rfl q)))))) ?_
  show G T0 (mkF m 8 #[iv pt, iv 0, .unset, .unset] [])
  refine hG.st (fun _ q => XS.iloadN S0.here hx rfl (hb hby own_d21_8) rfl (XS.ineg S0.here hx rfl (hb hby own_d21_9) rfl (XS.istoreN S0.here hx rfl (hb hby own_d21_10) rfl (l' := #[iv (-pt), iv 0, .unset, .unset]) rfl (XS.bipush S0.here hx rfl (hb hby own_d21_11) (XS.istoreN S0.here hx rfl (hb hby own_d21_13) rfl (l' := #[iv (-pt), iv 0, iv (-10 : Int32), .unset]) rfl (XS.iconst S0.here hx rfl (hb hby own_d21_14) q)))))) ?_
  show G T0 (mkF m 15 #[iv (-pt), iv 0, iv (-10 : Int32), .unset] [(.int 1)])
  refine hG.st (fun _ q => XS.istoreN S0.here hx rfl (hb hby own_d21_15) rfl (l' := #[iv (-pt), iv 0, iv (-10 : Int32), iv 1]) rfl (XS.iloadN S0.here hx rfl (hb hby own_d21_16) rfl (XS.bipush S0.here hx rfl (hb hby own_d21_17) (XS.icmpNo S0.here hx rfl (hb hby own_d21_19) rfl (tlt (by decide : (1 : Int32) < (10 : Int32))).2.1 (XS.iloadN S0.here hx rfl (hb hby own_d21_22) rfl (XS.iloadN S0.here hx rfl (hb hby own_d21_23) rfl q)))))) ?_
  show G T0 (mkF m 24 #[iv (-pt), iv 0, iv (-10 : Int32), iv 1] [(.int (-10 : Int32)), (.int (-pt))])
  refine hG.st (fun _ q => XS.icmpNo S0.here hx rfl (hb hby own_d21_24) rfl (tlt ((by rw [Int32.lt_iff_toInt_lt, own_neg (x := pt) ⟨by omega, by omega⟩, show (-10 : Int32).toInt = -10 from by decide]; omega) : (-10 : Int32) < (-pt))).2.2.2 (XS.iloadN S0.here hx rfl (hb hby own_d21_27) rfl (XS.iloadN S0.here hx rfl (hb hby own_d21_28) rfl (XS.iadd S0.here hx rfl (hb hby own_d21_29) rfl q)))) ?_
  show G T0 (mkF m 30 #[iv (-pt), iv 0, iv (-10 : Int32), iv 1] [(.int 1)])
  exact Own.Sit.retO hR S0 hx hret rfl (Or.inl ⟨rfl, Or.inl rfl, _, rfl⟩) (hb hby own_d21_30) (by decide) (by decide) ⟨(Keep.refl _ _), rfl⟩
theorem own_pna51775 : plainFor (⟨"java/lang/Integer", "getChars", "(II[B)I"⟩ : MethodName) = true := by first | exact plainFor_of_name (by first | (simp [plainName, overriddenIn]; done) | decide +kernel) | decide +kernel
theorem own_d22_0 : decode jdk_33_method_12_code 0 = .ok (.iload_n 1, 1) := by decide +kernel
theorem own_d22_1 : decode jdk_33_method_12_code 1 = .ok (.istore 5, 2) := by decide +kernel
theorem own_d22_3 : decode jdk_33_method_12_code 3 = .ok (.iload_n 0, 1) := by decide +kernel
theorem own_d22_4 : decode jdk_33_method_12_code 4 = .ok (.ifCond .ge 7, 3) := by decide +kernel
theorem own_d22_11 : decode jdk_33_method_12_code 11 = .ok (.iconst 0, 1) := by decide +kernel
theorem own_d22_12 : decode jdk_33_method_12_code 12 = .ok (.istore 6, 2) := by decide +kernel
theorem own_d22_14 : decode jdk_33_method_12_code 14 = .ok (.iload 6, 2) := by decide +kernel
theorem own_d22_16 : decode jdk_33_method_12_code 16 = .ok (.ifCond .ne 6, 3) := by decide +kernel
theorem own_d22_19 : decode jdk_33_method_12_code 19 = .ok (.iload_n 0, 1) := by decide +kernel
theorem own_d22_20 : decode jdk_33_method_12_code 20 = .ok (.ineg, 1) := by decide +kernel
theorem own_d22_21 : decode jdk_33_method_12_code 21 = .ok (.istore_n 0, 1) := by decide +kernel
theorem own_d22_22 : decode jdk_33_method_12_code 22 = .ok (.iload_n 0, 1) := by decide +kernel
theorem own_d22_23 : decode jdk_33_method_12_code 23 = .ok (.bipush (-100), 2) := by decide +kernel
theorem own_d22_25 : decode jdk_33_method_12_code 25 = .ok (.if_icmp .gt 47, 3) := by decide +kernel
theorem own_d22_72 : decode jdk_33_method_12_code 72 = .ok (.aload_n 2, 1) := by decide +kernel
theorem own_d22_73 : decode jdk_33_method_12_code 73 = .ok (.iinc 5 (-1), 3) := by decide +kernel
theorem own_d22_76 : decode jdk_33_method_12_code 76 = .ok (.iload 5, 2) := by decide +kernel
theorem own_d22_78 : decode jdk_33_method_12_code 78 = .ok (.getstatic 83, 3) := by decide +kernel
theorem own_d22_81 : decode jdk_33_method_12_code 81 = .ok (.iload_n 0, 1) := by decide +kernel
theorem own_d22_82 : decode jdk_33_method_12_code 82 = .ok (.ineg, 1) := by decide +kernel
theorem own_d22_83 : decode jdk_33_method_12_code 83 = .ok (.baload, 1) := by decide +kernel
theorem own_d22_84 : decode jdk_33_method_12_code 84 = .ok (.bastore, 1) := by decide +kernel
theorem own_d22_85 : decode jdk_33_method_12_code 85 = .ok (.iload_n 0, 1) := by decide +kernel
theorem own_d22_86 : decode jdk_33_method_12_code 86 = .ok (.bipush (-9), 2) := by decide +kernel
theorem own_d22_88 : decode jdk_33_method_12_code 88 = .ok (.if_icmp .ge 16, 3) := by decide +kernel
theorem own_d22_104 : decode jdk_33_method_12_code 104 = .ok (.iload 6, 2) := by decide +kernel
theorem own_d22_106 : decode jdk_33_method_12_code 106 = .ok (.ifCond .eq 12, 3) := by decide +kernel
theorem own_d22_118 : decode jdk_33_method_12_code 118 = .ok (.iload 5, 2) := by decide +kernel
theorem own_d22_120 : decode jdk_33_method_12_code 120 = .ok (.ireturn, 1) := by decide +kernel
theorem own_ef_own_gch1 (m : MethodId) (cs : List Int32) (pt : Int32) (ar : Addr) : entryFrame m #[(.int pt), (.int (Int32.ofNat (cs.length + 1))), (.ref ar)] 7 = mkF m 0 #[iv pt, iv (Int32.ofNat (cs.length + 1)), rv ar, .unset, .unset, .unset, .unset] [] := by first | (simp [entryFrame, mkF, argsToLocals, Value.category]; done) | rfl
set_option maxRecDepth 65536 in
set_option maxHeartbeats 40000000 in
theorem own_gch1 (l : Launch) (Z : State) (a0 : Array Value) (H : own_Wld Z a0) {cw : List Jvm.Cond} (pt : Int32) (ar : Addr) (cs : List Int32) (d1 d2 : Addr) (h0 : Heap) (O0 : Ext Z.heap h0) {kv : ClassId} (A_r : Arv Z h0 ar kv .byte (16 : Int32) (own_buf cs) (.int 0)) (hsum : cs.length + 1 ≤ 16) (g_r : Z.heap.size ≤ ar) {k1 k2 : ClassId} (DG : own_Dig Z d1 d2 k1 k2) (hp : 0 ≤ pt.toInt ∧ pt.toInt ≤ 9) :
    Own.Con l Z consts_1 (⟨"java/lang/Integer", "getChars", "(II[B)I"⟩ : MethodName) jdk_33_method_12_code 7 (some .int) cw ({ frames := 0, cells := 0, slots := 0, locals := 0 } : Room) #[(.int pt), (.int (Int32.ofNat (cs.length + 1))), (.ref ar)] h0 (fun v h => Keep h0 h [ar] ∧ (∃ r, v = some (.int r)) ∧ Arv Z h ar kv .byte (16 : Int32) (own_buf (cs ++ own_dig1 pt)) (.int 0)) := by
  have hw := H.1
  have hW := fun (i : Nat) (w : Jvm.Cond) (e : tables_1[i]? = some w) => hw w (List.mem_of_getElem? e)
  have hCm := H.2.1
  have hSi := H.2.2.1
  have hEL := H.2.2.2
  have hWs : ∀ d ∈ StrChars.Road.words, d.before a0 Z = true := fun d hd => hw d (own_wbackV d hd)
  have hWl : ∀ d ∈ StrChars.Road.wordsLen, d.before a0 Z = true := fun d hd => hw d (own_wlenW d hd)
  have hSA : ∀ d ∈ Bundle.stringAtoms, d.before a0 Z = true := fun d hd => hw d (own_wSA d hd)
  refine Own.Con.of own_pna51775 hEL O0 ?_
  intro p e s m below meth c T0 G vm0 hx hby hml hret hnm hG hR S0
  have hz : ∀ L : Array Slot, L.size = 7 → L.size = c.maxLocals := fun L q => q.trans hml.symm
  rw [own_ef_own_gch1]
  show G T0 (mkF m 0 #[iv pt, iv (Int32.ofNat (cs.length + 1)), rv ar, .unset, .unset, .unset, .unset] [])
  obtain ⟨Sd1, Ad1, Sd2, Ad2⟩ := id DG
  refine hG.st (fun _ q => XS.iloadN S0.here hx rfl (hb hby own_d22_0) rfl (XS.istore S0.here hx rfl (hb hby own_d22_1) rfl (l' := #[iv pt, iv (Int32.ofNat (cs.length + 1)), rv ar, .unset, .unset, iv (Int32.ofNat (cs.length + 1)), .unset]) rfl (XS.iloadN S0.here hx rfl (hb hby own_d22_3) rfl (XS.ifYes S0.here hx rfl (pc0 := 4) (pc' := 11) rfl (hb hby own_d22_4) rfl ((if0 _ _).trans (flt ((by rw [Int32.lt_iff_toInt_lt, show (0 : Int32).toInt = 0 from by decide]; omega) : ¬ (pt < (0 : Int32)))).2.1) (by decide) (by decide) (XS.iconst S0.here hx rfl (hb hby own_d22_11) (XS.istore S0.here hx rfl (hb hby own_d22_12) rfl (l' := #[iv pt, iv (Int32.ofNat (cs.length + 1)), rv ar, .unset, .unset, iv (Int32.ofNat (cs.length + 1)), iv 0]) rfl q)))))) ?_
  show G T0 (mkF m 14 #[iv pt, iv (Int32.ofNat (cs.length + 1)), rv ar, .unset, .unset, iv (Int32.ofNat (cs.length + 1)), iv 0] [])
  refine hG.st (fun _ q => XS.iload S0.here hx rfl (hb hby own_d22_14) rfl (XS.ifNo S0.here hx rfl (hb hby own_d22_16) rfl ((if0 _ _).trans (teq (by decide : (0 : Int32) = (0 : Int32))).2) (XS.iloadN S0.here hx rfl (hb hby own_d22_19) rfl (XS.ineg S0.here hx rfl (hb hby own_d22_20) rfl (XS.istoreN S0.here hx rfl (hb hby own_d22_21) rfl (l' := #[iv (-pt), iv (Int32.ofNat (cs.length + 1)), rv ar, .unset, .unset, iv (Int32.ofNat (cs.length + 1)), iv 0]) rfl q))))) ?_
  show G T0 (mkF m 22 #[iv (-pt), iv (Int32.ofNat (cs.length + 1)), rv ar, .unset, .unset, iv (Int32.ofNat (cs.length + 1)), iv 0] [])
  obtain ⟨i0, ei0⟩ : ∃ z : Int32, z = (-pt) := ⟨_, rfl⟩
  rw [← ei0]
  show G T0 (mkF m 22 #[iv i0, iv (Int32.ofNat (cs.length + 1)), rv ar, .unset, .unset, iv (Int32.ofNat (cs.length + 1)), iv 0] [])
  have hi0 : i0.toInt = -(pt.toInt) := by rw [ei0, own_neg ⟨by omega, by omega⟩]
  refine hG.st (fun _ q => XS.iloadN S0.here hx rfl (hb hby own_d22_22) rfl (XS.bipush S0.here hx rfl (hb hby own_d22_23) (XS.icmpYes S0.here hx rfl (pc0 := 25) (pc' := 72) rfl (hb hby own_d22_25) rfl (tlt ((by rw [Int32.lt_iff_toInt_lt, hi0, show (-100 : Int32).toInt = -100 from by decide]; omega) : (-100 : Int32) < i0)).2.2.1 (by decide) (by decide) (XS.aloadN S0.here hx rfl (hb hby own_d22_72) rfl rfl (XS.iinc S0.here hx rfl (hb hby own_d22_73) rfl (l' := #[iv i0, iv (Int32.ofNat (cs.length + 1)), rv ar, .unset, .unset, iv ((Int32.ofNat (cs.length + 1)) + (-1 : Int32)), iv 0]) rfl q))))) ?_
  show G T0 (mkF m 76 #[iv i0, iv (Int32.ofNat (cs.length + 1)), rv ar, .unset, .unset, iv ((Int32.ofNat (cs.length + 1)) + (-1 : Int32)), iv 0] [(.ref ar)])
  rw [show (Int32.ofNat (cs.length + 1)) + (-1 : Int32) = Int32.ofNat (cs.length + 0) from own_dec (cs.length + 0)]
  show G T0 (mkF m 76 #[iv i0, iv (Int32.ofNat (cs.length + 1)), rv ar, .unset, .unset, iv (Int32.ofNat (cs.length + 0)), iv 0] [(.ref ar)])
  refine hG.st (fun _ q => XS.iload S0.here hx rfl (hb hby own_d22_76) rfl q) ?_
  show G T0 (mkF m 78 #[iv i0, iv (Int32.ofNat (cs.length + 1)), rv ar, .unset, .unset, iv (Int32.ofNat (cs.length + 0)), iv 0] [(.int (Int32.ofNat (cs.length + 0))), (.ref ar)])
  refine Own.Sit.getS hG S0 hx (host := "") (Or.inl (hW 159 _ rfl)) Via.refl (Sd1.ext S0.old) rfl (hb hby own_d22_78) (fun T161 S161 => ?_)
  refine hG.st (fun _ q => XS.iloadN S161.here hx rfl (hb hby own_d22_81) rfl (XS.ineg S161.here hx rfl (hb hby own_d22_82) rfl q)) ?_
  show G T161 (mkF m 83 #[iv i0, iv (Int32.ofNat (cs.length + 1)), rv ar, .unset, .unset, iv (Int32.ofNat (cs.length + 0)), iv 0] [(.int (-i0)), (.ref d1), (.int (Int32.ofNat (cs.length + 0))), (.ref ar)])
  have V162 := Ad1.ext S161.old
  have hj163 : ¬ (-i0) < 0 ∧ (-i0) < 100 := ⟨by rw [Int32.lt_iff_toInt_lt, own_neg ⟨by omega, by omega⟩, show (0 : Int32).toInt = 0 from rfl]; omega, by rw [Int32.lt_iff_toInt_lt, own_neg ⟨by omega, by omega⟩, show (100 : Int32).toInt = 100 from rfl]; omega⟩
  refine Own.Sit.baload hG S161 hx V162 hj163 (own_ones_at hj163) rfl rfl (hb hby own_d22_83) ?_
  show G T161 (mkF m 84 #[iv i0, iv (Int32.ofNat (cs.length + 1)), rv ar, .unset, .unset, iv (Int32.ofNat (cs.length + 0)), iv 0] [(.int ((48 : Int32) + ((-i0) % (10 : Int32)))), (.int (Int32.ofNat (cs.length + 0))), (.ref ar)])
  refine Own.Sit.stB hG S161 hx A_r g_r (Own.Safe.size S161.warm A_r (hW 6 _ rfl) (own_sz16 hw)) (own_idx (by omega)) (cs.length + 0) (own_tn (by omega)) (by (try simp only [List.length_set]); rw [own_bufl (by omega)]; omega) rfl rfl (hb hby own_d22_84) (fun T164 h164 S164 J164 V164 => ?_)
  refine hG.st (fun _ q => XS.iloadN S164.here hx rfl (hb hby own_d22_85) rfl (XS.bipush S164.here hx rfl (hb hby own_d22_86) (XS.icmpYes S164.here hx rfl (pc0 := 88) (pc' := 104) rfl (hb hby own_d22_88) rfl (flt ((by rw [Int32.lt_iff_toInt_lt, hi0, show (-9 : Int32).toInt = -9 from by decide]; omega) : ¬ (i0 < (-9 : Int32)))).2.1 (by decide) (by decide) (XS.iload S164.here hx rfl (hb hby own_d22_104) rfl (XS.ifYes S164.here hx rfl (pc0 := 106) (pc' := 118) rfl (hb hby own_d22_106) rfl ((if0 _ _).trans (teq (by decide : (0 : Int32) = (0 : Int32))).1) (by decide) (by decide) (XS.iload S164.here hx rfl (hb hby own_d22_118) rfl q)))))) ?_
  show G T164 (mkF m 120 #[iv i0, iv (Int32.ofNat (cs.length + 1)), rv ar, .unset, .unset, iv (Int32.ofNat (cs.length + 0)), iv 0] [(.int (Int32.ofNat (cs.length + 0)))])
  have pp := own_p (p := pt) (by omega)
  have xx165 : (-i0).toInt = -(-(pt.toInt)) := by rw [own_neg (x := i0) ⟨by omega, by omega⟩, hi0]
  have ee165 : ((48 : Int32) + ((-i0) % (10 : Int32))) = (48 : Int32) + (pt % 10) := congrArg (fun z => (48 : Int32) + z) (Int32.toInt_inj.mp (by rw [(own_t10 (x := (-i0)) (by omega)).1, pp.1]; omega))
  have Af : Arv Z h164 ar kv .byte (16 : Int32) (own_buf (cs ++ own_dig1 pt)) (.int 0) := by
    have q := V164
    rw [own_lst1 _  hsum, ee165] at q
    exact q
  exact Own.Sit.retO hR S164 hx hret rfl (Or.inl ⟨rfl, Or.inl rfl, _, rfl⟩) (hb hby own_d22_120) (by decide) (by decide) ⟨J164.1, ⟨_, rfl⟩, Af⟩
theorem own_pn4294e0 : plainFor (⟨"java/lang/AbstractStringBuilder", "append", "(I)Ljava/lang/AbstractStringBuilder;"⟩ : MethodName) = true := by first | exact plainFor_of_name (by first | (simp [plainName, overriddenIn]; done) | decide +kernel) | decide +kernel
theorem own_pd89c469 : parseMethodDescriptor "(I)I" = some ⟨[.int], some .int⟩ := by decide +kernel
theorem own_pdca675b : parseMethodDescriptor "(II[B)I" = some ⟨[.int, .int, (.array .byte)], some .int⟩ := by decide +kernel
theorem own_d23_0 : decode jdk_68_method_32_code 0 = .ok (.aload_n 0, 1) := by decide +kernel
theorem own_d23_1 : decode jdk_68_method_32_code 1 = .ok (.getfield 79, 3) := by decide +kernel
theorem own_d23_4 : decode jdk_68_method_32_code 4 = .ok (.istore_n 2, 1) := by decide +kernel
theorem own_d23_5 : decode jdk_68_method_32_code 5 = .ok (.iload_n 2, 1) := by decide +kernel
theorem own_d23_6 : decode jdk_68_method_32_code 6 = .ok (.iload_n 1, 1) := by decide +kernel
theorem own_d23_7 : decode jdk_68_method_32_code 7 = .ok (.invokestatic 245, 3) := by decide +kernel
theorem own_d23_10 : decode jdk_68_method_32_code 10 = .ok (.iadd, 1) := by decide +kernel
theorem own_d23_11 : decode jdk_68_method_32_code 11 = .ok (.istore_n 3, 1) := by decide +kernel
theorem own_d23_12 : decode jdk_68_method_32_code 12 = .ok (.aload_n 0, 1) := by decide +kernel
theorem own_d23_13 : decode jdk_68_method_32_code 13 = .ok (.iload_n 3, 1) := by decide +kernel
theorem own_d23_14 : decode jdk_68_method_32_code 14 = .ok (.invokevirtual 100, 3) := by decide +kernel
theorem own_d23_17 : decode jdk_68_method_32_code 17 = .ok (.aload_n 0, 1) := by decide +kernel
theorem own_d23_18 : decode jdk_68_method_32_code 18 = .ok (.invokevirtual 83, 3) := by decide +kernel
theorem own_d23_21 : decode jdk_68_method_32_code 21 = .ok (.ifCond .eq 16, 3) := by decide +kernel
theorem own_d23_24 : decode jdk_68_method_32_code 24 = .ok (.iload_n 1, 1) := by decide +kernel
theorem own_d23_25 : decode jdk_68_method_32_code 25 = .ok (.iload_n 3, 1) := by decide +kernel
theorem own_d23_26 : decode jdk_68_method_32_code 26 = .ok (.aload_n 0, 1) := by decide +kernel
theorem own_d23_27 : decode jdk_68_method_32_code 27 = .ok (.getfield 15, 3) := by decide +kernel
theorem own_d23_30 : decode jdk_68_method_32_code 30 = .ok (.invokestatic 248, 3) := by decide +kernel
theorem own_d23_33 : decode jdk_68_method_32_code 33 = .ok (.pop, 1) := by decide +kernel
theorem own_d23_34 : decode jdk_68_method_32_code 34 = .ok (.goto 14, 3) := by decide +kernel
theorem own_d23_48 : decode jdk_68_method_32_code 48 = .ok (.aload_n 0, 1) := by decide +kernel
theorem own_d23_49 : decode jdk_68_method_32_code 49 = .ok (.iload_n 3, 1) := by decide +kernel
theorem own_d23_50 : decode jdk_68_method_32_code 50 = .ok (.putfield 79, 3) := by decide +kernel
theorem own_d23_53 : decode jdk_68_method_32_code 53 = .ok (.aload_n 0, 1) := by decide +kernel
theorem own_d23_54 : decode jdk_68_method_32_code 54 = .ok (.areturn, 1) := by decide +kernel
theorem own_ef_own_api1 (m : MethodId) (b : Addr) (pt : Int32) : entryFrame m #[(.ref b), (.int pt)] 4 = mkF m 0 #[rv b, iv pt, .unset, .unset] [] := by first | (simp [entryFrame, mkF, argsToLocals, Value.category]; done) | rfl
set_option maxRecDepth 65536 in
set_option maxHeartbeats 40000000 in
theorem own_api1 (l : Launch) (Z : State) (a0 : Array Value) (H : own_Wld Z a0) {cw : List Jvm.Cond} (b : Addr) (pt : Int32) (ar : Addr) (cs : List Int32) (d1 d2 : Addr) (h0 : Heap) (O0 : Ext Z.heap h0) {kv : ClassId} (SB : own_SB Z h0 b ar kv cs) (hsum : cs.length + 1 ≤ 16) (g_b : Z.heap.size ≤ b) (g_r : Z.heap.size ≤ ar) {k1 k2 : ClassId} (DG : own_Dig Z d1 d2 k1 k2) (hp : 0 ≤ pt.toInt ∧ pt.toInt ≤ 9) :
    Own.Con l Z consts_1 (⟨"java/lang/AbstractStringBuilder", "append", "(I)Ljava/lang/AbstractStringBuilder;"⟩ : MethodName) jdk_68_method_32_code 4 (some (.object "java/lang/AbstractStringBuilder")) cw ({ frames := 1, cells := 0, slots := 0, locals := 18 } : Room) #[(.ref b), (.int pt)] h0 (fun v h => Keep h0 h [b, ar] ∧ v = some (.ref b) ∧ own_SB Z h b ar kv (cs ++ own_dig1 pt)) := by
  have hw := H.1
  have hW := fun (i : Nat) (w : Jvm.Cond) (e : tables_1[i]? = some w) => hw w (List.mem_of_getElem? e)
  have hCm := H.2.1
  have hSi := H.2.2.1
  have hEL := H.2.2.2
  have hWs : ∀ d ∈ StrChars.Road.words, d.before a0 Z = true := fun d hd => hw d (own_wbackV d hd)
  have hWl : ∀ d ∈ StrChars.Road.wordsLen, d.before a0 Z = true := fun d hd => hw d (own_wlenW d hd)
  have hSA : ∀ d ∈ Bundle.stringAtoms, d.before a0 Z = true := fun d hd => hw d (own_wSA d hd)
  refine Own.Con.of own_pn4294e0 hEL O0 ?_
  intro p e s m below meth c T0 G vm0 hx hby hml hret hnm hG hR S0
  have hz : ∀ L : Array Slot, L.size = 4 → L.size = c.maxLocals := fun L q => q.trans hml.symm
  rw [own_ef_own_api1]
  show G T0 (mkF m 0 #[rv b, iv pt, .unset, .unset] [])
  obtain ⟨E_b166, Fv_b166, Fc_b166, Fn_b166, A_r166⟩ := id SB
  refine hG.st (fun _ q => XS.aloadN S0.here hx rfl (hb hby own_d23_0) rfl rfl q) ?_
  show G T0 (mkF m 1 #[rv b, iv pt, .unset, .unset] [(.ref b)])
  refine Own.Sit.getF hG S0 hx (host := "") (Or.inl (hW 111 _ rfl)) Via.refl Fn_b166 rfl rfl (hb hby own_d23_1) (fun T167 S167 => ?_)
  refine hG.st (fun _ q => XS.istoreN S167.here hx rfl (hb hby own_d23_4) rfl (l' := #[rv b, iv pt, iv (Int32.ofNat cs.length), .unset]) rfl (XS.iloadN S167.here hx rfl (hb hby own_d23_5) rfl (XS.iloadN S167.here hx rfl (hb hby own_d23_6) rfl q))) ?_
  show G T167 (mkF m 7 #[rv b, iv pt, iv (Int32.ofNat cs.length), .unset] [(.int pt), (.int (Int32.ofNat cs.length))])
  refine Own.Sit.callS hG S167 hx hEL (as := [(.int pt)]) (hW 147 _ rfl) (hW 148 _ rfl) (hW 149 _ rfl) (hW 150 _ rfl) (by decide) (own_ssz1 l Z a0 H pt h0 S167.old hp) own_pd89c469 rfl rfl (hz _ rfl) (rest := [(.int (Int32.ofNat cs.length))]) rfl (W := 1) (Own.hw0 rfl rfl) (hb hby own_d23_7) (by decide) (by decide) (by decide) (by decide) (fun v168 vm168 T168 h168 S168 C168 q168 => ?_)
  obtain ⟨K168, rfl⟩ := q168
  have J168 : Own.Stp Z consts_1 vm0 h0 vm168 h168 [] := ⟨K168, C168⟩
  refine hG.st (fun _ q => XS.iadd S168.here hx rfl (hb hby own_d23_10) rfl q) ?_
  show G T168 (mkF m 11 #[rv b, iv pt, iv (Int32.ofNat cs.length), .unset] [(.int ((Int32.ofNat cs.length) + (1 : Int32)))])
  rw [show (Int32.ofNat cs.length) + (1 : Int32) = Int32.ofNat (cs.length + 1) from own_addn cs.length 1]
  show G T168 (mkF m 11 #[rv b, iv pt, iv (Int32.ofNat cs.length), .unset] [(.int (Int32.ofNat (cs.length + 1)))])
  refine hG.st (fun _ q => XS.istoreN S168.here hx rfl (hb hby own_d23_11) rfl (l' := #[rv b, iv pt, iv (Int32.ofNat cs.length), iv (Int32.ofNat (cs.length + 1))]) rfl (XS.aloadN S168.here hx rfl (hb hby own_d23_12) rfl rfl (XS.iloadN S168.here hx rfl (hb hby own_d23_13) rfl q))) ?_
  show G T168 (mkF m 14 #[rv b, iv pt, iv (Int32.ofNat cs.length), iv (Int32.ofNat (cs.length + 1))] [(.int (Int32.ofNat (cs.length + 1))), (.ref b)])
  have E169 := J168.exa E_b166
  have F170 := J168.fld Fv_b166 nin0
  have F171 := J168.fld Fc_b166 nin0
  have F172 := J168.fld Fn_b166 nin0
  have V173 := J168.arv A_r166 nin0
  have SB174 : own_SB Z h168 b ar kv cs := ⟨E169, F170, F171, F172, V173⟩
  refine Own.Sit.callPS hG S168 hx hEL (as := [(.int (Int32.ofNat (cs.length + 1)))]) (hW 113 _ rfl) (hW 115 _ rfl) (hW 116 _ rfl) (hW 114 _ rfl) (hW 88 _ rfl) (hW 117 _ rfl) (by decide) E169 (own_ens l Z a0 H b (Int32.ofNat (cs.length + 1)) ar cs h168 S168.old SB174 (own_ec hsum)) own_pdc76b35 rfl rfl (hz _ rfl) (rest := []) rfl (W := 0) (Own.hw0 rfl rfl) (hb hby own_d23_14) (by decide) (by decide) (by decide) (by decide) (fun v175 vm175 T175 h175 S175 C175 q175 => ?_)
  obtain ⟨K175, rfl⟩ := q175
  have J175 : Own.Stp Z consts_1 vm168 h168 vm175 h175 [] := ⟨K175, C175⟩
  refine hG.st (fun _ q => XS.aloadN S175.here hx rfl (hb hby own_d23_17) rfl rfl q) ?_
  show G T175 (mkF m 18 #[rv b, iv pt, iv (Int32.ofNat cs.length), iv (Int32.ofNat (cs.length + 1))] [(.ref b)])
  have E176 := J175.exa E169
  have F177 := J175.fld F170 nin0
  have F178 := J175.fld F171 nin0
  have F179 := J175.fld F172 nin0
  have V180 := J175.arv V173 nin0
  have SB181 : own_SB Z h175 b ar kv cs := ⟨E176, F177, F178, F179, V180⟩
  refine Own.Sit.callV hG S175 hx hEL (as := []) (hW 151 _ rfl) (hW 152 _ rfl) (hW 154 _ rfl) (hW 153 _ rfl) (hW 88 _ rfl) (hW 155 _ rfl) (by decide) E176 (own_alat l Z a0 H b ar cs h175 S175.old SB181) own_pdbfe1a5 rfl rfl (hz _ rfl) (rest := []) rfl (W := 0) (Own.hw0 rfl rfl) (hb hby own_d23_18) (by decide) (by decide) (by decide) (by decide) (fun v182 vm182 T182 h182 S182 C182 q182 => ?_)
  obtain ⟨K182, rfl⟩ := q182
  have J182 : Own.Stp Z consts_1 vm175 h175 vm182 h182 [] := ⟨K182, C182⟩
  refine hG.st (fun _ q => XS.ifNo S182.here hx rfl (hb hby own_d23_21) rfl ((if0 _ _).trans (feq (by decide : ¬ ((1 : Int32) = (0 : Int32)))).1) (XS.iloadN S182.here hx rfl (hb hby own_d23_24) rfl (XS.iloadN S182.here hx rfl (hb hby own_d23_25) rfl (XS.aloadN S182.here hx rfl (hb hby own_d23_26) rfl rfl q)))) ?_
  show G T182 (mkF m 27 #[rv b, iv pt, iv (Int32.ofNat cs.length), iv (Int32.ofNat (cs.length + 1))] [(.ref b), (.int (Int32.ofNat (cs.length + 1))), (.int pt)])
  have F183 := J182.fld F177 nin0
  refine Own.Sit.getF hG S182 hx (host := "") (Or.inl (hW 92 _ rfl)) Via.refl F183 rfl rfl (hb hby own_d23_27) (fun T184 S184 => ?_)
  have V185 := J182.arv V180 nin0
  show G T184 (mkF m 30 #[rv b, iv pt, iv (Int32.ofNat cs.length), iv (Int32.ofNat (cs.length + 1))] [(.ref ar), (.int (Int32.ofNat (cs.length + 1))), (.int pt)])
  refine Own.Sit.callS hG S184 hx hEL (as := [(.int pt), (.int (Int32.ofNat (cs.length + 1))), (.ref ar)]) (hW 156 _ rfl) (hW 157 _ rfl) (hW 149 _ rfl) (hW 158 _ rfl) (by decide) (own_gch1 l Z a0 H pt ar cs d1 d2 h182 S184.old V185 hsum g_r DG hp) own_pdca675b rfl rfl (hz _ rfl) (rest := []) rfl (W := 0) (Own.hw0 rfl rfl) (hb hby own_d23_30) (by decide) (by decide) (by decide) (by decide) (fun v186 vm186 T186 h186 S186 C186 q186 => ?_)
  obtain ⟨K186, ⟨r186, rfl⟩, A186⟩ := q186
  have J186 : Own.Stp Z consts_1 vm182 h182 vm186 h186 [ar] := ⟨K186, C186⟩
  refine hG.st (fun _ q => XS.pop S186.here hx rfl (hb hby own_d23_33) rfl rfl (XS.goto S186.here hx rfl (pc0 := 34) (pc' := 48) rfl (hb hby own_d23_34) (by decide) (by decide) (XS.aloadN S186.here hx rfl (hb hby own_d23_48) rfl rfl (XS.iloadN S186.here hx rfl (hb hby own_d23_49) rfl q)))) ?_
  show G T186 (mkF m 50 #[rv b, iv pt, iv (Int32.ofNat cs.length), iv (Int32.ofNat (cs.length + 1))] [(.int (Int32.ofNat (cs.length + 1))), (.ref b)])
  have J187 : Own.Stp Z consts_1 vm175 h175 vm186 h186 [ar] := Own.Stp.trans J182 J186 (all0) (allS (Or.inl (List.mem_of_getElem? (i := 0) rfl)) all0)
  have J189 : Own.Stp Z consts_1 vm0 h0 vm175 h175 [] := Own.Stp.trans J168 J175 (all0) all0
  have J190 : Own.Stp Z consts_1 vm0 h0 vm182 h182 [] := Own.Stp.trans J189 J182 (all0) all0
  have J191 : Own.Stp Z consts_1 vm0 h0 vm186 h186 [ar] := Own.Stp.trans J190 J186 (all0) (allS (Or.inl (List.mem_of_getElem? (i := 0) rfl)) all0)
  have F188 := J187.fld F179 (ninS (Exa.neArv (J191.exa E_b166) A186 (hW 79 _ rfl)) nin0)
  have E192 := J187.exa E176
  have F194 := J186.fld F183 (ninS (Exa.neArv (J191.exa E_b166) A186 (hW 79 _ rfl)) nin0)
  have F195 := J187.fld F178 (ninS (Exa.neArv (J191.exa E_b166) A186 (hW 79 _ rfl)) nin0)
  refine Own.Sit.putF hG S186 hx (host := "") (Or.inl (hW 111 _ rfl)) Via.refl F188 E192 (Or.inl (hW 112 _ rfl)) (hW 79 _ rfl) (ty := .int) (by decide) rfl rfl g_b (Safe.exa S186.warm.alike E192 (by decide) (by decide)) rfl rfl (hb hby own_d23_50) (fun T193 h193 S193 J193 W193 F193 => ?_)
  have F196 := Fld.other W193 F194 (Or.inr (slot_ne (Or.inl (hW 93 _ rfl)) (Or.inl (hW 112 _ rfl)) (by decide) (t := (.array .byte)) (by decide) (t' := .int) (by decide)))
  have F197 := Fld.other W193 F195 (Or.inr (slot_ne (Or.inl (hW 95 _ rfl)) (Or.inl (hW 112 _ rfl)) (by decide) (t := .byte) (by decide) (t' := .int) (by decide)))
  refine hG.st (fun _ q => XS.aloadN S193.here hx rfl (hb hby own_d23_53) rfl rfl q) ?_
  show G T193 (mkF m 54 #[rv b, iv pt, iv (Int32.ofNat cs.length), iv (Int32.ofNat (cs.length + 1))] [(.ref b)])
  have J198 : Own.Stp Z consts_1 vm0 h0 vm186 h193 [ar, b] := Own.Stp.trans J191 J193 (allS (List.mem_of_getElem? (i := 0) rfl) (all0)) (allS (Or.inl (List.mem_of_getElem? (i := 1) rfl)) all0)
  have E199 := J193.exa E192
  have V200 := J193.arv A186 (ninS (Ne.symm (Exa.neArv (J191.exa E_b166) A186 (hW 79 _ rfl))) nin0)
  exact Own.Sit.retO hR S193 hx hret rfl (Or.inr (Or.inr (Or.inr (Or.inr ⟨rfl, rfl, rfl⟩)))) (hb hby own_d23_54) (by decide) (by decide) ⟨(Own.keep_mono J198.1 (allS (List.mem_of_getElem? (i := 1) rfl) (allS (List.mem_of_getElem? (i := 0) rfl) all0))), rfl, E199, F196, F197, (by rw [List.length_append]; exact F193), V200⟩
theorem own_pn6aade2 : plainFor (⟨"java/lang/StringBuilder", "append", "(I)Ljava/lang/StringBuilder;"⟩ : MethodName) = true := by first | exact plainFor_of_name (by first | (simp [plainName, overriddenIn]; done) | decide +kernel) | decide +kernel
theorem own_pd757924 : parseMethodDescriptor "(I)Ljava/lang/AbstractStringBuilder;" = some ⟨[.int], some (.object "java/lang/AbstractStringBuilder")⟩ := by decide +kernel
theorem own_d24_0 : decode jdk_67_method_15_code 0 = .ok (.aload_n 0, 1) := by decide +kernel
theorem own_d24_1 : decode jdk_67_method_15_code 1 = .ok (.iload_n 1, 1) := by decide +kernel
theorem own_d24_2 : decode jdk_67_method_15_code 2 = .ok (.invokespecial 53, 3) := by decide +kernel
theorem own_d24_5 : decode jdk_67_method_15_code 5 = .ok (.pop, 1) := by decide +kernel
theorem own_d24_6 : decode jdk_67_method_15_code 6 = .ok (.aload_n 0, 1) := by decide +kernel
theorem own_d24_7 : decode jdk_67_method_15_code 7 = .ok (.areturn, 1) := by decide +kernel
theorem own_ef_own_bpi1 (m : MethodId) (b : Addr) (pt : Int32) : entryFrame m #[(.ref b), (.int pt)] 2 = mkF m 0 #[rv b, iv pt] [] := by first | (simp [entryFrame, mkF, argsToLocals, Value.category]; done) | rfl
set_option maxRecDepth 65536 in
set_option maxHeartbeats 40000000 in
theorem own_bpi1 (l : Launch) (Z : State) (a0 : Array Value) (H : own_Wld Z a0) {cw : List Jvm.Cond} (b : Addr) (pt : Int32) (ar : Addr) (cs : List Int32) (d1 d2 : Addr) (h0 : Heap) (O0 : Ext Z.heap h0) {kv : ClassId} (SB : own_SB Z h0 b ar kv cs) (hsum : cs.length + 1 ≤ 16) (g_b : Z.heap.size ≤ b) (g_r : Z.heap.size ≤ ar) {k1 k2 : ClassId} (DG : own_Dig Z d1 d2 k1 k2) (hp : 0 ≤ pt.toInt ∧ pt.toInt ≤ 9) :
    Own.Con l Z consts_1 (⟨"java/lang/StringBuilder", "append", "(I)Ljava/lang/StringBuilder;"⟩ : MethodName) jdk_67_method_15_code 2 (some (.object "java/lang/StringBuilder")) cw ({ frames := 2, cells := 0, slots := 0, locals := 33 } : Room) #[(.ref b), (.int pt)] h0 (fun v h => Keep h0 h [b, ar] ∧ v = some (.ref b) ∧ own_SB Z h b ar kv (cs ++ own_dig1 pt)) := by
  have hw := H.1
  have hW := fun (i : Nat) (w : Jvm.Cond) (e : tables_1[i]? = some w) => hw w (List.mem_of_getElem? e)
  have hCm := H.2.1
  have hSi := H.2.2.1
  have hEL := H.2.2.2
  have hWs : ∀ d ∈ StrChars.Road.words, d.before a0 Z = true := fun d hd => hw d (own_wbackV d hd)
  have hWl : ∀ d ∈ StrChars.Road.wordsLen, d.before a0 Z = true := fun d hd => hw d (own_wlenW d hd)
  have hSA : ∀ d ∈ Bundle.stringAtoms, d.before a0 Z = true := fun d hd => hw d (own_wSA d hd)
  refine Own.Con.of own_pn6aade2 hEL O0 ?_
  intro p e s m below meth c T0 G vm0 hx hby hml hret hnm hG hR S0
  have hz : ∀ L : Array Slot, L.size = 2 → L.size = c.maxLocals := fun L q => q.trans hml.symm
  rw [own_ef_own_bpi1]
  show G T0 (mkF m 0 #[rv b, iv pt] [])
  obtain ⟨E_b201, Fv_b201, Fc_b201, Fn_b201, A_r201⟩ := id SB
  refine hG.st (fun _ q => XS.aloadN S0.here hx rfl (hb hby own_d24_0) rfl rfl (XS.iloadN S0.here hx rfl (hb hby own_d24_1) rfl q)) ?_
  show G T0 (mkF m 2 #[rv b, iv pt] [(.int pt), (.ref b)])
  have SB202 : own_SB Z h0 b ar kv cs := ⟨E_b201, Fv_b201, Fc_b201, Fn_b201, A_r201⟩
  refine Own.Sit.callU hG S0 hx hEL (as := [(.int pt)]) (hW 143 _ rfl) (Own.same_of (by decide) (hW 144 _ rfl) (hW 116 _ rfl) rfl) (hW 144 _ rfl) (hW 103 _ rfl) (by decide) (hW 88 _ rfl) (hW 146 _ rfl) E_b201 (own_api1 l Z a0 H b pt ar cs d1 d2 h0 S0.old SB202 hsum g_b g_r DG hp) own_pd757924 rfl rfl (hz _ rfl) (rest := []) rfl (W := 0) (Own.hw0 rfl rfl) (hb hby own_d24_2) (by decide) (by decide) (by decide) (by decide) (fun v203 vm203 T203 h203 S203 C203 q203 => ?_)
  obtain ⟨K203, rfl, SB203⟩ := q203
  have J203 : Own.Stp Z consts_1 vm0 h0 vm203 h203 [b, ar] := ⟨K203, C203⟩
  obtain ⟨E_b204, Fv_b204, Fc_b204, Fn_b204, A_r204⟩ := id SB203
  refine hG.st (fun _ q => XS.pop S203.here hx rfl (hb hby own_d24_5) rfl rfl (XS.aloadN S203.here hx rfl (hb hby own_d24_6) rfl rfl q)) ?_
  show G T203 (mkF m 7 #[rv b, iv pt] [(.ref b)])
  exact Own.Sit.retO hR S203 hx hret rfl (Or.inr (Or.inr (Or.inr (Or.inr ⟨rfl, rfl, rfl⟩)))) (hb hby own_d24_7) (by decide) (by decide) ⟨J203.1, rfl, E_b204, Fv_b204, Fc_b204, Fn_b204, A_r204⟩
theorem own_d21_31 : decode jdk_33_method_13_code 31 = .ok (.bipush 10, 2) := by decide +kernel
theorem own_d21_33 : decode jdk_33_method_13_code 33 = .ok (.iload_n 2, 1) := by decide +kernel
theorem own_d21_34 : decode jdk_33_method_13_code 34 = .ok (.imul, 1) := by decide +kernel
theorem own_d21_35 : decode jdk_33_method_13_code 35 = .ok (.istore_n 2, 1) := by decide +kernel
theorem own_d21_36 : decode jdk_33_method_13_code 36 = .ok (.iinc 3 1, 3) := by decide +kernel
theorem own_d21_39 : decode jdk_33_method_13_code 39 = .ok (.goto (-23), 3) := by decide +kernel
theorem own_ef_own_ssz2 (m : MethodId) (pt : Int32) : entryFrame m #[(.int pt)] 4 = mkF m 0 #[iv pt, .unset, .unset, .unset] [] := by first | (simp [entryFrame, mkF, argsToLocals, Value.category]; done) | rfl
set_option maxRecDepth 65536 in
set_option maxHeartbeats 40000000 in
theorem own_ssz2 (l : Launch) (Z : State) (a0 : Array Value) (H : own_Wld Z a0) {cw : List Jvm.Cond} (pt : Int32) (h0 : Heap) (O0 : Ext Z.heap h0) (hp : 10 ≤ pt.toInt ∧ pt.toInt ≤ 99) :
    Own.Con l Z consts_1 (⟨"java/lang/Integer", "stringSize", "(I)I"⟩ : MethodName) jdk_33_method_13_code 4 (some .int) cw ({ frames := 0, cells := 0, slots := 0, locals := 0 } : Room) #[(.int pt)] h0 (fun v h => Keep h0 h [] ∧ v = some (.int 2)) := by
  have hw := H.1
  have hW := fun (i : Nat) (w : Jvm.Cond) (e : tables_1[i]? = some w) => hw w (List.mem_of_getElem? e)
  have hCm := H.2.1
  have hSi := H.2.2.1
  have hEL := H.2.2.2
  have hWs : ∀ d ∈ StrChars.Road.words, d.before a0 Z = true := fun d hd => hw d (own_wbackV d hd)
  have hWl : ∀ d ∈ StrChars.Road.wordsLen, d.before a0 Z = true := fun d hd => hw d (own_wlenW d hd)
  have hSA : ∀ d ∈ Bundle.stringAtoms, d.before a0 Z = true := fun d hd => hw d (own_wSA d hd)
  refine Own.Con.of own_pn39fe1f hEL O0 ?_
  intro p e s m below meth c T0 G vm0 hx hby hml hret hnm hG hR S0
  have hz : ∀ L : Array Slot, L.size = 4 → L.size = c.maxLocals := fun L q => q.trans hml.symm
  rw [own_ef_own_ssz2]
  show G T0 (mkF m 0 #[iv pt, .unset, .unset, .unset] [])
  refine hG.st (fun _ q => XS.iconst S0.here hx rfl (hb hby own_d21_0) (XS.istoreN S0.here hx rfl (hb hby own_d21_1) rfl (l' := #[iv pt, iv 1, .unset, .unset]) rfl (XS.iloadN S0.here hx rfl (hb hby own_d21_2) rfl (XS.ifNo S0.here hx rfl (hb hby own_d21_3) rfl ((if0 _ _).trans (flt ((by rw [Int32.lt_iff_toInt_lt, show (0 : Int32).toInt = 0 from by decide]; omega) : ¬ (pt < (0 : Int32)))).1) (XS.iconst S0.here hx rfl (hb hby own_d21_6) (XS.istoreN S0.here hx rfl (hb hby own_d21_7) rfl (l' := #[iv pt, iv 0, .unset, .unset]) rfl q)))))) ?_
  show G T0 (mkF m 8 #[iv pt, iv 0, .unset, .unset] [])
  refine hG.st (fun _ q => XS.iloadN S0.here hx rfl (hb hby own_d21_8) rfl (XS.ineg S0.here hx rfl (hb hby own_d21_9) rfl (XS.istoreN S0.here hx rfl (hb hby own_d21_10) rfl (l' := #[iv (-pt), iv 0, .unset, .unset]) rfl (XS.bipush S0.here hx rfl (hb hby own_d21_11) (XS.istoreN S0.here hx rfl (hb hby own_d21_13) rfl (l' := #[iv (-pt), iv 0, iv (-10 : Int32), .unset]) rfl (XS.iconst S0.here hx rfl (hb hby own_d21_14) q)))))) ?_
  show G T0 (mkF m 15 #[iv (-pt), iv 0, iv (-10 : Int32), .unset] [(.int 1)])
  refine hG.st (fun _ q => XS.istoreN S0.here hx rfl (hb hby own_d21_15) rfl (l' := #[iv (-pt), iv 0, iv (-10 : Int32), iv 1]) rfl (XS.iloadN S0.here hx rfl (hb hby own_d21_16) rfl (XS.bipush S0.here hx rfl (hb hby own_d21_17) (XS.icmpNo S0.here hx rfl (hb hby own_d21_19) rfl (tlt (by decide : (1 : Int32) < (10 : Int32))).2.1 (XS.iloadN S0.here hx rfl (hb hby own_d21_22) rfl (XS.iloadN S0.here hx rfl (hb hby own_d21_23) rfl q)))))) ?_
  show G T0 (mkF m 24 #[iv (-pt), iv 0, iv (-10 : Int32), iv 1] [(.int (-10 : Int32)), (.int (-pt))])
  refine hG.st (fun _ q => XS.icmpYes S0.here hx rfl (pc0 := 24) (pc' := 31) rfl (hb hby own_d21_24) rfl (flt ((by rw [Int32.lt_iff_toInt_lt, own_neg (x := pt) ⟨by omega, by omega⟩, show (-10 : Int32).toInt = -10 from by decide]; omega) : ¬ ((-10 : Int32) < (-pt)))).2.2.2 (by decide) (by decide) (XS.bipush S0.here hx rfl (hb hby own_d21_31) (XS.iloadN S0.here hx rfl (hb hby own_d21_33) rfl (XS.imul S0.here hx rfl (hb hby own_d21_34) rfl (XS.istoreN S0.here hx rfl (hb hby own_d21_35) rfl (l' := #[iv (-pt), iv 0, iv (-100 : Int32), iv 1]) rfl (XS.iinc S0.here hx rfl (hb hby own_d21_36) rfl (l' := #[iv (-pt), iv 0, iv (-100 : Int32), iv 2]) rfl q)))))) ?_
  show G T0 (mkF m 39 #[iv (-pt), iv 0, iv (-100 : Int32), iv 2] [])
  refine hG.st (fun _ q => XS.goto S0.here hx rfl (pc0 := 39) (pc' := 16) rfl (hb hby own_d21_39) (by decide) (by decide) (XS.iloadN S0.here hx rfl (hb hby own_d21_16) rfl (XS.bipush S0.here hx rfl (hb hby own_d21_17) (XS.icmpNo S0.here hx rfl (hb hby own_d21_19) rfl (tlt (by decide : (2 : Int32) < (10 : Int32))).2.1 (XS.iloadN S0.here hx rfl (hb hby own_d21_22) rfl (XS.iloadN S0.here hx rfl (hb hby own_d21_23) rfl q)))))) ?_
  show G T0 (mkF m 24 #[iv (-pt), iv 0, iv (-100 : Int32), iv 2] [(.int (-100 : Int32)), (.int (-pt))])
  refine hG.st (fun _ q => XS.icmpNo S0.here hx rfl (hb hby own_d21_24) rfl (tlt ((by rw [Int32.lt_iff_toInt_lt, own_neg (x := pt) ⟨by omega, by omega⟩, show (-100 : Int32).toInt = -100 from by decide]; omega) : (-100 : Int32) < (-pt))).2.2.2 (XS.iloadN S0.here hx rfl (hb hby own_d21_27) rfl (XS.iloadN S0.here hx rfl (hb hby own_d21_28) rfl (XS.iadd S0.here hx rfl (hb hby own_d21_29) rfl q)))) ?_
  show G T0 (mkF m 30 #[iv (-pt), iv 0, iv (-100 : Int32), iv 2] [(.int 2)])
  exact Own.Sit.retO hR S0 hx hret rfl (Or.inl ⟨rfl, Or.inl rfl, _, rfl⟩) (hb hby own_d21_30) (by decide) (by decide) ⟨(Keep.refl _ _), rfl⟩
theorem own_d22_91 : decode jdk_33_method_12_code 91 = .ok (.aload_n 2, 1) := by decide +kernel
theorem own_d22_92 : decode jdk_33_method_12_code 92 = .ok (.iinc 5 (-1), 3) := by decide +kernel
theorem own_d22_95 : decode jdk_33_method_12_code 95 = .ok (.iload 5, 2) := by decide +kernel
theorem own_d22_97 : decode jdk_33_method_12_code 97 = .ok (.getstatic 87, 3) := by decide +kernel
theorem own_d22_100 : decode jdk_33_method_12_code 100 = .ok (.iload_n 0, 1) := by decide +kernel
theorem own_d22_101 : decode jdk_33_method_12_code 101 = .ok (.ineg, 1) := by decide +kernel
theorem own_d22_102 : decode jdk_33_method_12_code 102 = .ok (.baload, 1) := by decide +kernel
theorem own_d22_103 : decode jdk_33_method_12_code 103 = .ok (.bastore, 1) := by decide +kernel
theorem own_ef_own_gch2 (m : MethodId) (cs : List Int32) (pt : Int32) (ar : Addr) : entryFrame m #[(.int pt), (.int (Int32.ofNat (cs.length + 2))), (.ref ar)] 7 = mkF m 0 #[iv pt, iv (Int32.ofNat (cs.length + 2)), rv ar, .unset, .unset, .unset, .unset] [] := by first | (simp [entryFrame, mkF, argsToLocals, Value.category]; done) | rfl
set_option maxRecDepth 65536 in
set_option maxHeartbeats 40000000 in
theorem own_gch2 (l : Launch) (Z : State) (a0 : Array Value) (H : own_Wld Z a0) {cw : List Jvm.Cond} (pt : Int32) (ar : Addr) (cs : List Int32) (d1 d2 : Addr) (h0 : Heap) (O0 : Ext Z.heap h0) {kv : ClassId} (A_r : Arv Z h0 ar kv .byte (16 : Int32) (own_buf cs) (.int 0)) (hsum : cs.length + 2 ≤ 16) (g_r : Z.heap.size ≤ ar) {k1 k2 : ClassId} (DG : own_Dig Z d1 d2 k1 k2) (hp : 10 ≤ pt.toInt ∧ pt.toInt ≤ 99) :
    Own.Con l Z consts_1 (⟨"java/lang/Integer", "getChars", "(II[B)I"⟩ : MethodName) jdk_33_method_12_code 7 (some .int) cw ({ frames := 0, cells := 0, slots := 0, locals := 0 } : Room) #[(.int pt), (.int (Int32.ofNat (cs.length + 2))), (.ref ar)] h0 (fun v h => Keep h0 h [ar] ∧ (∃ r, v = some (.int r)) ∧ Arv Z h ar kv .byte (16 : Int32) (own_buf (cs ++ own_dig2 pt)) (.int 0)) := by
  have hw := H.1
  have hW := fun (i : Nat) (w : Jvm.Cond) (e : tables_1[i]? = some w) => hw w (List.mem_of_getElem? e)
  have hCm := H.2.1
  have hSi := H.2.2.1
  have hEL := H.2.2.2
  have hWs : ∀ d ∈ StrChars.Road.words, d.before a0 Z = true := fun d hd => hw d (own_wbackV d hd)
  have hWl : ∀ d ∈ StrChars.Road.wordsLen, d.before a0 Z = true := fun d hd => hw d (own_wlenW d hd)
  have hSA : ∀ d ∈ Bundle.stringAtoms, d.before a0 Z = true := fun d hd => hw d (own_wSA d hd)
  refine Own.Con.of own_pna51775 hEL O0 ?_
  intro p e s m below meth c T0 G vm0 hx hby hml hret hnm hG hR S0
  have hz : ∀ L : Array Slot, L.size = 7 → L.size = c.maxLocals := fun L q => q.trans hml.symm
  rw [own_ef_own_gch2]
  show G T0 (mkF m 0 #[iv pt, iv (Int32.ofNat (cs.length + 2)), rv ar, .unset, .unset, .unset, .unset] [])
  obtain ⟨Sd1, Ad1, Sd2, Ad2⟩ := id DG
  refine hG.st (fun _ q => XS.iloadN S0.here hx rfl (hb hby own_d22_0) rfl (XS.istore S0.here hx rfl (hb hby own_d22_1) rfl (l' := #[iv pt, iv (Int32.ofNat (cs.length + 2)), rv ar, .unset, .unset, iv (Int32.ofNat (cs.length + 2)), .unset]) rfl (XS.iloadN S0.here hx rfl (hb hby own_d22_3) rfl (XS.ifYes S0.here hx rfl (pc0 := 4) (pc' := 11) rfl (hb hby own_d22_4) rfl ((if0 _ _).trans (flt ((by rw [Int32.lt_iff_toInt_lt, show (0 : Int32).toInt = 0 from by decide]; omega) : ¬ (pt < (0 : Int32)))).2.1) (by decide) (by decide) (XS.iconst S0.here hx rfl (hb hby own_d22_11) (XS.istore S0.here hx rfl (hb hby own_d22_12) rfl (l' := #[iv pt, iv (Int32.ofNat (cs.length + 2)), rv ar, .unset, .unset, iv (Int32.ofNat (cs.length + 2)), iv 0]) rfl q)))))) ?_
  show G T0 (mkF m 14 #[iv pt, iv (Int32.ofNat (cs.length + 2)), rv ar, .unset, .unset, iv (Int32.ofNat (cs.length + 2)), iv 0] [])
  refine hG.st (fun _ q => XS.iload S0.here hx rfl (hb hby own_d22_14) rfl (XS.ifNo S0.here hx rfl (hb hby own_d22_16) rfl ((if0 _ _).trans (teq (by decide : (0 : Int32) = (0 : Int32))).2) (XS.iloadN S0.here hx rfl (hb hby own_d22_19) rfl (XS.ineg S0.here hx rfl (hb hby own_d22_20) rfl (XS.istoreN S0.here hx rfl (hb hby own_d22_21) rfl (l' := #[iv (-pt), iv (Int32.ofNat (cs.length + 2)), rv ar, .unset, .unset, iv (Int32.ofNat (cs.length + 2)), iv 0]) rfl q))))) ?_
  show G T0 (mkF m 22 #[iv (-pt), iv (Int32.ofNat (cs.length + 2)), rv ar, .unset, .unset, iv (Int32.ofNat (cs.length + 2)), iv 0] [])
  obtain ⟨i0, ei0⟩ : ∃ z : Int32, z = (-pt) := ⟨_, rfl⟩
  rw [← ei0]
  show G T0 (mkF m 22 #[iv i0, iv (Int32.ofNat (cs.length + 2)), rv ar, .unset, .unset, iv (Int32.ofNat (cs.length + 2)), iv 0] [])
  have hi0 : i0.toInt = -(pt.toInt) := by rw [ei0, own_neg ⟨by omega, by omega⟩]
  refine hG.st (fun _ q => XS.iloadN S0.here hx rfl (hb hby own_d22_22) rfl (XS.bipush S0.here hx rfl (hb hby own_d22_23) (XS.icmpYes S0.here hx rfl (pc0 := 25) (pc' := 72) rfl (hb hby own_d22_25) rfl (tlt ((by rw [Int32.lt_iff_toInt_lt, hi0, show (-100 : Int32).toInt = -100 from by decide]; omega) : (-100 : Int32) < i0)).2.2.1 (by decide) (by decide) (XS.aloadN S0.here hx rfl (hb hby own_d22_72) rfl rfl (XS.iinc S0.here hx rfl (hb hby own_d22_73) rfl (l' := #[iv i0, iv (Int32.ofNat (cs.length + 2)), rv ar, .unset, .unset, iv ((Int32.ofNat (cs.length + 2)) + (-1 : Int32)), iv 0]) rfl q))))) ?_
  show G T0 (mkF m 76 #[iv i0, iv (Int32.ofNat (cs.length + 2)), rv ar, .unset, .unset, iv ((Int32.ofNat (cs.length + 2)) + (-1 : Int32)), iv 0] [(.ref ar)])
  rw [show (Int32.ofNat (cs.length + 2)) + (-1 : Int32) = Int32.ofNat (cs.length + 1) from own_dec (cs.length + 1)]
  show G T0 (mkF m 76 #[iv i0, iv (Int32.ofNat (cs.length + 2)), rv ar, .unset, .unset, iv (Int32.ofNat (cs.length + 1)), iv 0] [(.ref ar)])
  refine hG.st (fun _ q => XS.iload S0.here hx rfl (hb hby own_d22_76) rfl q) ?_
  show G T0 (mkF m 78 #[iv i0, iv (Int32.ofNat (cs.length + 2)), rv ar, .unset, .unset, iv (Int32.ofNat (cs.length + 1)), iv 0] [(.int (Int32.ofNat (cs.length + 1))), (.ref ar)])
  refine Own.Sit.getS hG S0 hx (host := "") (Or.inl (hW 159 _ rfl)) Via.refl (Sd1.ext S0.old) rfl (hb hby own_d22_78) (fun T205 S205 => ?_)
  refine hG.st (fun _ q => XS.iloadN S205.here hx rfl (hb hby own_d22_81) rfl (XS.ineg S205.here hx rfl (hb hby own_d22_82) rfl q)) ?_
  show G T205 (mkF m 83 #[iv i0, iv (Int32.ofNat (cs.length + 2)), rv ar, .unset, .unset, iv (Int32.ofNat (cs.length + 1)), iv 0] [(.int (-i0)), (.ref d1), (.int (Int32.ofNat (cs.length + 1))), (.ref ar)])
  have V206 := Ad1.ext S205.old
  have hj207 : ¬ (-i0) < 0 ∧ (-i0) < 100 := ⟨by rw [Int32.lt_iff_toInt_lt, own_neg ⟨by omega, by omega⟩, show (0 : Int32).toInt = 0 from rfl]; omega, by rw [Int32.lt_iff_toInt_lt, own_neg ⟨by omega, by omega⟩, show (100 : Int32).toInt = 100 from rfl]; omega⟩
  refine Own.Sit.baload hG S205 hx V206 hj207 (own_ones_at hj207) rfl rfl (hb hby own_d22_83) ?_
  show G T205 (mkF m 84 #[iv i0, iv (Int32.ofNat (cs.length + 2)), rv ar, .unset, .unset, iv (Int32.ofNat (cs.length + 1)), iv 0] [(.int ((48 : Int32) + ((-i0) % (10 : Int32)))), (.int (Int32.ofNat (cs.length + 1))), (.ref ar)])
  refine Own.Sit.stB hG S205 hx A_r g_r (Own.Safe.size S205.warm A_r (hW 6 _ rfl) (own_sz16 hw)) (own_idx (by omega)) (cs.length + 1) (own_tn (by omega)) (by (try simp only [List.length_set]); rw [own_bufl (by omega)]; omega) rfl rfl (hb hby own_d22_84) (fun T208 h208 S208 J208 V208 => ?_)
  refine hG.st (fun _ q => XS.iloadN S208.here hx rfl (hb hby own_d22_85) rfl (XS.bipush S208.here hx rfl (hb hby own_d22_86) (XS.icmpNo S208.here hx rfl (hb hby own_d22_88) rfl (tlt ((by rw [Int32.lt_iff_toInt_lt, hi0, show (-9 : Int32).toInt = -9 from by decide]; omega) : i0 < (-9 : Int32))).2.1 (XS.aloadN S208.here hx rfl (hb hby own_d22_91) rfl rfl (XS.iinc S208.here hx rfl (hb hby own_d22_92) rfl (l' := #[iv i0, iv (Int32.ofNat (cs.length + 2)), rv ar, .unset, .unset, iv ((Int32.ofNat (cs.length + 1)) + (-1 : Int32)), iv 0]) rfl q))))) ?_
  show G T208 (mkF m 95 #[iv i0, iv (Int32.ofNat (cs.length + 2)), rv ar, .unset, .unset, iv ((Int32.ofNat (cs.length + 1)) + (-1 : Int32)), iv 0] [(.ref ar)])
  rw [show (Int32.ofNat (cs.length + 1)) + (-1 : Int32) = Int32.ofNat (cs.length + 0) from own_dec (cs.length + 0)]
  show G T208 (mkF m 95 #[iv i0, iv (Int32.ofNat (cs.length + 2)), rv ar, .unset, .unset, iv (Int32.ofNat (cs.length + 0)), iv 0] [(.ref ar)])
  refine hG.st (fun _ q => XS.iload S208.here hx rfl (hb hby own_d22_95) rfl q) ?_
  show G T208 (mkF m 97 #[iv i0, iv (Int32.ofNat (cs.length + 2)), rv ar, .unset, .unset, iv (Int32.ofNat (cs.length + 0)), iv 0] [(.int (Int32.ofNat (cs.length + 0))), (.ref ar)])
  refine Own.Sit.getS hG S208 hx (host := "") (Or.inl (hW 221 _ rfl)) Via.refl (Sd2.ext S208.old) rfl (hb hby own_d22_97) (fun T209 S209 => ?_)
  refine hG.st (fun _ q => XS.iloadN S209.here hx rfl (hb hby own_d22_100) rfl (XS.ineg S209.here hx rfl (hb hby own_d22_101) rfl q)) ?_
  show G T209 (mkF m 102 #[iv i0, iv (Int32.ofNat (cs.length + 2)), rv ar, .unset, .unset, iv (Int32.ofNat (cs.length + 0)), iv 0] [(.int (-i0)), (.ref d2), (.int (Int32.ofNat (cs.length + 0))), (.ref ar)])
  have V210 := Ad2.ext S209.old
  have hj211 : ¬ (-i0) < 0 ∧ (-i0) < 100 := ⟨by rw [Int32.lt_iff_toInt_lt, own_neg ⟨by omega, by omega⟩, show (0 : Int32).toInt = 0 from rfl]; omega, by rw [Int32.lt_iff_toInt_lt, own_neg ⟨by omega, by omega⟩, show (100 : Int32).toInt = 100 from rfl]; omega⟩
  refine Own.Sit.baload hG S209 hx V210 hj211 (own_tens_at hj211) rfl rfl (hb hby own_d22_102) ?_
  show G T209 (mkF m 103 #[iv i0, iv (Int32.ofNat (cs.length + 2)), rv ar, .unset, .unset, iv (Int32.ofNat (cs.length + 0)), iv 0] [(.int ((48 : Int32) + ((-i0) / (10 : Int32)))), (.int (Int32.ofNat (cs.length + 0))), (.ref ar)])
  refine Own.Sit.stB hG S209 hx V208 g_r (Own.Safe.size S209.warm V208 (hW 6 _ rfl) (own_sz16 hw)) (own_idx (by omega)) (cs.length + 0) (own_tn (by omega)) (by (try simp only [List.length_set]); rw [own_bufl (by omega)]; omega) rfl rfl (hb hby own_d22_103) (fun T212 h212 S212 J212 V212 => ?_)
  refine hG.st (fun _ q => XS.iload S212.here hx rfl (hb hby own_d22_104) rfl (XS.ifYes S212.here hx rfl (pc0 := 106) (pc' := 118) rfl (hb hby own_d22_106) rfl ((if0 _ _).trans (teq (by decide : (0 : Int32) = (0 : Int32))).1) (by decide) (by decide) (XS.iload S212.here hx rfl (hb hby own_d22_118) rfl q))) ?_
  show G T212 (mkF m 120 #[iv i0, iv (Int32.ofNat (cs.length + 2)), rv ar, .unset, .unset, iv (Int32.ofNat (cs.length + 0)), iv 0] [(.int (Int32.ofNat (cs.length + 0)))])
  have pp := own_p (p := pt) (by omega)
  have xx213 : (-i0).toInt = -(-(pt.toInt)) := by rw [own_neg (x := i0) ⟨by omega, by omega⟩, hi0]
  have ee213 : ((48 : Int32) + ((-i0) / (10 : Int32))) = (48 : Int32) + (pt / 10 % 10) := congrArg (fun z => (48 : Int32) + z) (Int32.toInt_inj.mp (by rw [(own_t10 (x := (-i0)) (by omega)).2, pp.2.1]; omega))
  have xx214 : (-i0).toInt = -(-(pt.toInt)) := by rw [own_neg (x := i0) ⟨by omega, by omega⟩, hi0]
  have ee214 : ((48 : Int32) + ((-i0) % (10 : Int32))) = (48 : Int32) + (pt % 10) := congrArg (fun z => (48 : Int32) + z) (Int32.toInt_inj.mp (by rw [(own_t10 (x := (-i0)) (by omega)).1, pp.1]; omega))
  have Af : Arv Z h212 ar kv .byte (16 : Int32) (own_buf (cs ++ own_dig2 pt)) (.int 0) := by
    have q := V212
    rw [own_lst2 _ _ hsum, ee213, ee214] at q
    exact q
  have J215 : Own.Stp Z consts_1 vm0 h0 vm0 h212 [ar] := Own.Stp.trans J208 J212 (allS (List.mem_of_getElem? (i := 0) rfl) (all0)) (allS (Or.inl (List.mem_of_getElem? (i := 0) rfl)) all0)
  exact Own.Sit.retO hR S212 hx hret rfl (Or.inl ⟨rfl, Or.inl rfl, _, rfl⟩) (hb hby own_d22_120) (by decide) (by decide) ⟨J215.1, ⟨_, rfl⟩, Af⟩
theorem own_ef_own_api2 (m : MethodId) (b : Addr) (pt : Int32) : entryFrame m #[(.ref b), (.int pt)] 4 = mkF m 0 #[rv b, iv pt, .unset, .unset] [] := by first | (simp [entryFrame, mkF, argsToLocals, Value.category]; done) | rfl
set_option maxRecDepth 65536 in
set_option maxHeartbeats 40000000 in
theorem own_api2 (l : Launch) (Z : State) (a0 : Array Value) (H : own_Wld Z a0) {cw : List Jvm.Cond} (b : Addr) (pt : Int32) (ar : Addr) (cs : List Int32) (d1 d2 : Addr) (h0 : Heap) (O0 : Ext Z.heap h0) {kv : ClassId} (SB : own_SB Z h0 b ar kv cs) (hsum : cs.length + 2 ≤ 16) (g_b : Z.heap.size ≤ b) (g_r : Z.heap.size ≤ ar) {k1 k2 : ClassId} (DG : own_Dig Z d1 d2 k1 k2) (hp : 10 ≤ pt.toInt ∧ pt.toInt ≤ 99) :
    Own.Con l Z consts_1 (⟨"java/lang/AbstractStringBuilder", "append", "(I)Ljava/lang/AbstractStringBuilder;"⟩ : MethodName) jdk_68_method_32_code 4 (some (.object "java/lang/AbstractStringBuilder")) cw ({ frames := 1, cells := 0, slots := 0, locals := 18 } : Room) #[(.ref b), (.int pt)] h0 (fun v h => Keep h0 h [b, ar] ∧ v = some (.ref b) ∧ own_SB Z h b ar kv (cs ++ own_dig2 pt)) := by
  have hw := H.1
  have hW := fun (i : Nat) (w : Jvm.Cond) (e : tables_1[i]? = some w) => hw w (List.mem_of_getElem? e)
  have hCm := H.2.1
  have hSi := H.2.2.1
  have hEL := H.2.2.2
  have hWs : ∀ d ∈ StrChars.Road.words, d.before a0 Z = true := fun d hd => hw d (own_wbackV d hd)
  have hWl : ∀ d ∈ StrChars.Road.wordsLen, d.before a0 Z = true := fun d hd => hw d (own_wlenW d hd)
  have hSA : ∀ d ∈ Bundle.stringAtoms, d.before a0 Z = true := fun d hd => hw d (own_wSA d hd)
  refine Own.Con.of own_pn4294e0 hEL O0 ?_
  intro p e s m below meth c T0 G vm0 hx hby hml hret hnm hG hR S0
  have hz : ∀ L : Array Slot, L.size = 4 → L.size = c.maxLocals := fun L q => q.trans hml.symm
  rw [own_ef_own_api2]
  show G T0 (mkF m 0 #[rv b, iv pt, .unset, .unset] [])
  obtain ⟨E_b216, Fv_b216, Fc_b216, Fn_b216, A_r216⟩ := id SB
  refine hG.st (fun _ q => XS.aloadN S0.here hx rfl (hb hby own_d23_0) rfl rfl q) ?_
  show G T0 (mkF m 1 #[rv b, iv pt, .unset, .unset] [(.ref b)])
  refine Own.Sit.getF hG S0 hx (host := "") (Or.inl (hW 111 _ rfl)) Via.refl Fn_b216 rfl rfl (hb hby own_d23_1) (fun T217 S217 => ?_)
  refine hG.st (fun _ q => XS.istoreN S217.here hx rfl (hb hby own_d23_4) rfl (l' := #[rv b, iv pt, iv (Int32.ofNat cs.length), .unset]) rfl (XS.iloadN S217.here hx rfl (hb hby own_d23_5) rfl (XS.iloadN S217.here hx rfl (hb hby own_d23_6) rfl q))) ?_
  show G T217 (mkF m 7 #[rv b, iv pt, iv (Int32.ofNat cs.length), .unset] [(.int pt), (.int (Int32.ofNat cs.length))])
  refine Own.Sit.callS hG S217 hx hEL (as := [(.int pt)]) (hW 147 _ rfl) (hW 148 _ rfl) (hW 149 _ rfl) (hW 150 _ rfl) (by decide) (own_ssz2 l Z a0 H pt h0 S217.old hp) own_pd89c469 rfl rfl (hz _ rfl) (rest := [(.int (Int32.ofNat cs.length))]) rfl (W := 1) (Own.hw0 rfl rfl) (hb hby own_d23_7) (by decide) (by decide) (by decide) (by decide) (fun v218 vm218 T218 h218 S218 C218 q218 => ?_)
  obtain ⟨K218, rfl⟩ := q218
  have J218 : Own.Stp Z consts_1 vm0 h0 vm218 h218 [] := ⟨K218, C218⟩
  refine hG.st (fun _ q => XS.iadd S218.here hx rfl (hb hby own_d23_10) rfl q) ?_
  show G T218 (mkF m 11 #[rv b, iv pt, iv (Int32.ofNat cs.length), .unset] [(.int ((Int32.ofNat cs.length) + (2 : Int32)))])
  rw [show (Int32.ofNat cs.length) + (2 : Int32) = Int32.ofNat (cs.length + 2) from own_addn cs.length 2]
  show G T218 (mkF m 11 #[rv b, iv pt, iv (Int32.ofNat cs.length), .unset] [(.int (Int32.ofNat (cs.length + 2)))])
  refine hG.st (fun _ q => XS.istoreN S218.here hx rfl (hb hby own_d23_11) rfl (l' := #[rv b, iv pt, iv (Int32.ofNat cs.length), iv (Int32.ofNat (cs.length + 2))]) rfl (XS.aloadN S218.here hx rfl (hb hby own_d23_12) rfl rfl (XS.iloadN S218.here hx rfl (hb hby own_d23_13) rfl q))) ?_
  show G T218 (mkF m 14 #[rv b, iv pt, iv (Int32.ofNat cs.length), iv (Int32.ofNat (cs.length + 2))] [(.int (Int32.ofNat (cs.length + 2))), (.ref b)])
  have E219 := J218.exa E_b216
  have F220 := J218.fld Fv_b216 nin0
  have F221 := J218.fld Fc_b216 nin0
  have F222 := J218.fld Fn_b216 nin0
  have V223 := J218.arv A_r216 nin0
  have SB224 : own_SB Z h218 b ar kv cs := ⟨E219, F220, F221, F222, V223⟩
  refine Own.Sit.callPS hG S218 hx hEL (as := [(.int (Int32.ofNat (cs.length + 2)))]) (hW 113 _ rfl) (hW 115 _ rfl) (hW 116 _ rfl) (hW 114 _ rfl) (hW 88 _ rfl) (hW 117 _ rfl) (by decide) E219 (own_ens l Z a0 H b (Int32.ofNat (cs.length + 2)) ar cs h218 S218.old SB224 (own_ec hsum)) own_pdc76b35 rfl rfl (hz _ rfl) (rest := []) rfl (W := 0) (Own.hw0 rfl rfl) (hb hby own_d23_14) (by decide) (by decide) (by decide) (by decide) (fun v225 vm225 T225 h225 S225 C225 q225 => ?_)
  obtain ⟨K225, rfl⟩ := q225
  have J225 : Own.Stp Z consts_1 vm218 h218 vm225 h225 [] := ⟨K225, C225⟩
  refine hG.st (fun _ q => XS.aloadN S225.here hx rfl (hb hby own_d23_17) rfl rfl q) ?_
  show G T225 (mkF m 18 #[rv b, iv pt, iv (Int32.ofNat cs.length), iv (Int32.ofNat (cs.length + 2))] [(.ref b)])
  have E226 := J225.exa E219
  have F227 := J225.fld F220 nin0
  have F228 := J225.fld F221 nin0
  have F229 := J225.fld F222 nin0
  have V230 := J225.arv V223 nin0
  have SB231 : own_SB Z h225 b ar kv cs := ⟨E226, F227, F228, F229, V230⟩
  refine Own.Sit.callV hG S225 hx hEL (as := []) (hW 151 _ rfl) (hW 152 _ rfl) (hW 154 _ rfl) (hW 153 _ rfl) (hW 88 _ rfl) (hW 155 _ rfl) (by decide) E226 (own_alat l Z a0 H b ar cs h225 S225.old SB231) own_pdbfe1a5 rfl rfl (hz _ rfl) (rest := []) rfl (W := 0) (Own.hw0 rfl rfl) (hb hby own_d23_18) (by decide) (by decide) (by decide) (by decide) (fun v232 vm232 T232 h232 S232 C232 q232 => ?_)
  obtain ⟨K232, rfl⟩ := q232
  have J232 : Own.Stp Z consts_1 vm225 h225 vm232 h232 [] := ⟨K232, C232⟩
  refine hG.st (fun _ q => XS.ifNo S232.here hx rfl (hb hby own_d23_21) rfl ((if0 _ _).trans (feq (by decide : ¬ ((1 : Int32) = (0 : Int32)))).1) (XS.iloadN S232.here hx rfl (hb hby own_d23_24) rfl (XS.iloadN S232.here hx rfl (hb hby own_d23_25) rfl (XS.aloadN S232.here hx rfl (hb hby own_d23_26) rfl rfl q)))) ?_
  show G T232 (mkF m 27 #[rv b, iv pt, iv (Int32.ofNat cs.length), iv (Int32.ofNat (cs.length + 2))] [(.ref b), (.int (Int32.ofNat (cs.length + 2))), (.int pt)])
  have F233 := J232.fld F227 nin0
  refine Own.Sit.getF hG S232 hx (host := "") (Or.inl (hW 92 _ rfl)) Via.refl F233 rfl rfl (hb hby own_d23_27) (fun T234 S234 => ?_)
  have V235 := J232.arv V230 nin0
  show G T234 (mkF m 30 #[rv b, iv pt, iv (Int32.ofNat cs.length), iv (Int32.ofNat (cs.length + 2))] [(.ref ar), (.int (Int32.ofNat (cs.length + 2))), (.int pt)])
  refine Own.Sit.callS hG S234 hx hEL (as := [(.int pt), (.int (Int32.ofNat (cs.length + 2))), (.ref ar)]) (hW 156 _ rfl) (hW 157 _ rfl) (hW 149 _ rfl) (hW 158 _ rfl) (by decide) (own_gch2 l Z a0 H pt ar cs d1 d2 h232 S234.old V235 hsum g_r DG hp) own_pdca675b rfl rfl (hz _ rfl) (rest := []) rfl (W := 0) (Own.hw0 rfl rfl) (hb hby own_d23_30) (by decide) (by decide) (by decide) (by decide) (fun v236 vm236 T236 h236 S236 C236 q236 => ?_)
  obtain ⟨K236, ⟨r236, rfl⟩, A236⟩ := q236
  have J236 : Own.Stp Z consts_1 vm232 h232 vm236 h236 [ar] := ⟨K236, C236⟩
  refine hG.st (fun _ q => XS.pop S236.here hx rfl (hb hby own_d23_33) rfl rfl (XS.goto S236.here hx rfl (pc0 := 34) (pc' := 48) rfl (hb hby own_d23_34) (by decide) (by decide) (XS.aloadN S236.here hx rfl (hb hby own_d23_48) rfl rfl (XS.iloadN S236.here hx rfl (hb hby own_d23_49) rfl q)))) ?_
  show G T236 (mkF m 50 #[rv b, iv pt, iv (Int32.ofNat cs.length), iv (Int32.ofNat (cs.length + 2))] [(.int (Int32.ofNat (cs.length + 2))), (.ref b)])
  have J237 : Own.Stp Z consts_1 vm225 h225 vm236 h236 [ar] := Own.Stp.trans J232 J236 (all0) (allS (Or.inl (List.mem_of_getElem? (i := 0) rfl)) all0)
  have J239 : Own.Stp Z consts_1 vm0 h0 vm225 h225 [] := Own.Stp.trans J218 J225 (all0) all0
  have J240 : Own.Stp Z consts_1 vm0 h0 vm232 h232 [] := Own.Stp.trans J239 J232 (all0) all0
  have J241 : Own.Stp Z consts_1 vm0 h0 vm236 h236 [ar] := Own.Stp.trans J240 J236 (all0) (allS (Or.inl (List.mem_of_getElem? (i := 0) rfl)) all0)
  have F238 := J237.fld F229 (ninS (Exa.neArv (J241.exa E_b216) A236 (hW 79 _ rfl)) nin0)
  have E242 := J237.exa E226
  have F244 := J236.fld F233 (ninS (Exa.neArv (J241.exa E_b216) A236 (hW 79 _ rfl)) nin0)
  have F245 := J237.fld F228 (ninS (Exa.neArv (J241.exa E_b216) A236 (hW 79 _ rfl)) nin0)
  refine Own.Sit.putF hG S236 hx (host := "") (Or.inl (hW 111 _ rfl)) Via.refl F238 E242 (Or.inl (hW 112 _ rfl)) (hW 79 _ rfl) (ty := .int) (by decide) rfl rfl g_b (Safe.exa S236.warm.alike E242 (by decide) (by decide)) rfl rfl (hb hby own_d23_50) (fun T243 h243 S243 J243 W243 F243 => ?_)
  have F246 := Fld.other W243 F244 (Or.inr (slot_ne (Or.inl (hW 93 _ rfl)) (Or.inl (hW 112 _ rfl)) (by decide) (t := (.array .byte)) (by decide) (t' := .int) (by decide)))
  have F247 := Fld.other W243 F245 (Or.inr (slot_ne (Or.inl (hW 95 _ rfl)) (Or.inl (hW 112 _ rfl)) (by decide) (t := .byte) (by decide) (t' := .int) (by decide)))
  refine hG.st (fun _ q => XS.aloadN S243.here hx rfl (hb hby own_d23_53) rfl rfl q) ?_
  show G T243 (mkF m 54 #[rv b, iv pt, iv (Int32.ofNat cs.length), iv (Int32.ofNat (cs.length + 2))] [(.ref b)])
  have J248 : Own.Stp Z consts_1 vm0 h0 vm236 h243 [ar, b] := Own.Stp.trans J241 J243 (allS (List.mem_of_getElem? (i := 0) rfl) (all0)) (allS (Or.inl (List.mem_of_getElem? (i := 1) rfl)) all0)
  have E249 := J243.exa E242
  have V250 := J243.arv A236 (ninS (Ne.symm (Exa.neArv (J241.exa E_b216) A236 (hW 79 _ rfl))) nin0)
  exact Own.Sit.retO hR S243 hx hret rfl (Or.inr (Or.inr (Or.inr (Or.inr ⟨rfl, rfl, rfl⟩)))) (hb hby own_d23_54) (by decide) (by decide) ⟨(Own.keep_mono J248.1 (allS (List.mem_of_getElem? (i := 1) rfl) (allS (List.mem_of_getElem? (i := 0) rfl) all0))), rfl, E249, F246, F247, (by rw [List.length_append]; exact F243), V250⟩
theorem own_ef_own_bpi2 (m : MethodId) (b : Addr) (pt : Int32) : entryFrame m #[(.ref b), (.int pt)] 2 = mkF m 0 #[rv b, iv pt] [] := by first | (simp [entryFrame, mkF, argsToLocals, Value.category]; done) | rfl
set_option maxRecDepth 65536 in
set_option maxHeartbeats 40000000 in
theorem own_bpi2 (l : Launch) (Z : State) (a0 : Array Value) (H : own_Wld Z a0) {cw : List Jvm.Cond} (b : Addr) (pt : Int32) (ar : Addr) (cs : List Int32) (d1 d2 : Addr) (h0 : Heap) (O0 : Ext Z.heap h0) {kv : ClassId} (SB : own_SB Z h0 b ar kv cs) (hsum : cs.length + 2 ≤ 16) (g_b : Z.heap.size ≤ b) (g_r : Z.heap.size ≤ ar) {k1 k2 : ClassId} (DG : own_Dig Z d1 d2 k1 k2) (hp : 10 ≤ pt.toInt ∧ pt.toInt ≤ 99) :
    Own.Con l Z consts_1 (⟨"java/lang/StringBuilder", "append", "(I)Ljava/lang/StringBuilder;"⟩ : MethodName) jdk_67_method_15_code 2 (some (.object "java/lang/StringBuilder")) cw ({ frames := 2, cells := 0, slots := 0, locals := 33 } : Room) #[(.ref b), (.int pt)] h0 (fun v h => Keep h0 h [b, ar] ∧ v = some (.ref b) ∧ own_SB Z h b ar kv (cs ++ own_dig2 pt)) := by
  have hw := H.1
  have hW := fun (i : Nat) (w : Jvm.Cond) (e : tables_1[i]? = some w) => hw w (List.mem_of_getElem? e)
  have hCm := H.2.1
  have hSi := H.2.2.1
  have hEL := H.2.2.2
  have hWs : ∀ d ∈ StrChars.Road.words, d.before a0 Z = true := fun d hd => hw d (own_wbackV d hd)
  have hWl : ∀ d ∈ StrChars.Road.wordsLen, d.before a0 Z = true := fun d hd => hw d (own_wlenW d hd)
  have hSA : ∀ d ∈ Bundle.stringAtoms, d.before a0 Z = true := fun d hd => hw d (own_wSA d hd)
  refine Own.Con.of own_pn6aade2 hEL O0 ?_
  intro p e s m below meth c T0 G vm0 hx hby hml hret hnm hG hR S0
  have hz : ∀ L : Array Slot, L.size = 2 → L.size = c.maxLocals := fun L q => q.trans hml.symm
  rw [own_ef_own_bpi2]
  show G T0 (mkF m 0 #[rv b, iv pt] [])
  obtain ⟨E_b251, Fv_b251, Fc_b251, Fn_b251, A_r251⟩ := id SB
  refine hG.st (fun _ q => XS.aloadN S0.here hx rfl (hb hby own_d24_0) rfl rfl (XS.iloadN S0.here hx rfl (hb hby own_d24_1) rfl q)) ?_
  show G T0 (mkF m 2 #[rv b, iv pt] [(.int pt), (.ref b)])
  have SB252 : own_SB Z h0 b ar kv cs := ⟨E_b251, Fv_b251, Fc_b251, Fn_b251, A_r251⟩
  refine Own.Sit.callU hG S0 hx hEL (as := [(.int pt)]) (hW 143 _ rfl) (Own.same_of (by decide) (hW 144 _ rfl) (hW 116 _ rfl) rfl) (hW 144 _ rfl) (hW 103 _ rfl) (by decide) (hW 88 _ rfl) (hW 146 _ rfl) E_b251 (own_api2 l Z a0 H b pt ar cs d1 d2 h0 S0.old SB252 hsum g_b g_r DG hp) own_pd757924 rfl rfl (hz _ rfl) (rest := []) rfl (W := 0) (Own.hw0 rfl rfl) (hb hby own_d24_2) (by decide) (by decide) (by decide) (by decide) (fun v253 vm253 T253 h253 S253 C253 q253 => ?_)
  obtain ⟨K253, rfl, SB253⟩ := q253
  have J253 : Own.Stp Z consts_1 vm0 h0 vm253 h253 [b, ar] := ⟨K253, C253⟩
  obtain ⟨E_b254, Fv_b254, Fc_b254, Fn_b254, A_r254⟩ := id SB253
  refine hG.st (fun _ q => XS.pop S253.here hx rfl (hb hby own_d24_5) rfl rfl (XS.aloadN S253.here hx rfl (hb hby own_d24_6) rfl rfl q)) ?_
  show G T253 (mkF m 7 #[rv b, iv pt] [(.ref b)])
  exact Own.Sit.retO hR S253 hx hret rfl (Or.inr (Or.inr (Or.inr (Or.inr ⟨rfl, rfl, rfl⟩)))) (hb hby own_d24_7) (by decide) (by decide) ⟨J253.1, rfl, E_b254, Fv_b254, Fc_b254, Fn_b254, A_r254⟩
theorem own_ef_own_ssz3 (m : MethodId) (pt : Int32) : entryFrame m #[(.int pt)] 4 = mkF m 0 #[iv pt, .unset, .unset, .unset] [] := by first | (simp [entryFrame, mkF, argsToLocals, Value.category]; done) | rfl
set_option maxRecDepth 65536 in
set_option maxHeartbeats 40000000 in
theorem own_ssz3 (l : Launch) (Z : State) (a0 : Array Value) (H : own_Wld Z a0) {cw : List Jvm.Cond} (pt : Int32) (h0 : Heap) (O0 : Ext Z.heap h0) (hp : 100 ≤ pt.toInt ∧ pt.toInt ≤ 999) :
    Own.Con l Z consts_1 (⟨"java/lang/Integer", "stringSize", "(I)I"⟩ : MethodName) jdk_33_method_13_code 4 (some .int) cw ({ frames := 0, cells := 0, slots := 0, locals := 0 } : Room) #[(.int pt)] h0 (fun v h => Keep h0 h [] ∧ v = some (.int 3)) := by
  have hw := H.1
  have hW := fun (i : Nat) (w : Jvm.Cond) (e : tables_1[i]? = some w) => hw w (List.mem_of_getElem? e)
  have hCm := H.2.1
  have hSi := H.2.2.1
  have hEL := H.2.2.2
  have hWs : ∀ d ∈ StrChars.Road.words, d.before a0 Z = true := fun d hd => hw d (own_wbackV d hd)
  have hWl : ∀ d ∈ StrChars.Road.wordsLen, d.before a0 Z = true := fun d hd => hw d (own_wlenW d hd)
  have hSA : ∀ d ∈ Bundle.stringAtoms, d.before a0 Z = true := fun d hd => hw d (own_wSA d hd)
  refine Own.Con.of own_pn39fe1f hEL O0 ?_
  intro p e s m below meth c T0 G vm0 hx hby hml hret hnm hG hR S0
  have hz : ∀ L : Array Slot, L.size = 4 → L.size = c.maxLocals := fun L q => q.trans hml.symm
  rw [own_ef_own_ssz3]
  show G T0 (mkF m 0 #[iv pt, .unset, .unset, .unset] [])
  refine hG.st (fun _ q => XS.iconst S0.here hx rfl (hb hby own_d21_0) (XS.istoreN S0.here hx rfl (hb hby own_d21_1) rfl (l' := #[iv pt, iv 1, .unset, .unset]) rfl (XS.iloadN S0.here hx rfl (hb hby own_d21_2) rfl (XS.ifNo S0.here hx rfl (hb hby own_d21_3) rfl ((if0 _ _).trans (flt ((by rw [Int32.lt_iff_toInt_lt, show (0 : Int32).toInt = 0 from by decide]; omega) : ¬ (pt < (0 : Int32)))).1) (XS.iconst S0.here hx rfl (hb hby own_d21_6) (XS.istoreN S0.here hx rfl (hb hby own_d21_7) rfl (l' := #[iv pt, iv 0, .unset, .unset]) rfl q)))))) ?_
  show G T0 (mkF m 8 #[iv pt, iv 0, .unset, .unset] [])
  refine hG.st (fun _ q => XS.iloadN S0.here hx rfl (hb hby own_d21_8) rfl (XS.ineg S0.here hx rfl (hb hby own_d21_9) rfl (XS.istoreN S0.here hx rfl (hb hby own_d21_10) rfl (l' := #[iv (-pt), iv 0, .unset, .unset]) rfl (XS.bipush S0.here hx rfl (hb hby own_d21_11) (XS.istoreN S0.here hx rfl (hb hby own_d21_13) rfl (l' := #[iv (-pt), iv 0, iv (-10 : Int32), .unset]) rfl (XS.iconst S0.here hx rfl (hb hby own_d21_14) q)))))) ?_
  show G T0 (mkF m 15 #[iv (-pt), iv 0, iv (-10 : Int32), .unset] [(.int 1)])
  refine hG.st (fun _ q => XS.istoreN S0.here hx rfl (hb hby own_d21_15) rfl (l' := #[iv (-pt), iv 0, iv (-10 : Int32), iv 1]) rfl (XS.iloadN S0.here hx rfl (hb hby own_d21_16) rfl (XS.bipush S0.here hx rfl (hb hby own_d21_17) (XS.icmpNo S0.here hx rfl (hb hby own_d21_19) rfl (tlt (by decide : (1 : Int32) < (10 : Int32))).2.1 (XS.iloadN S0.here hx rfl (hb hby own_d21_22) rfl (XS.iloadN S0.here hx rfl (hb hby own_d21_23) rfl q)))))) ?_
  show G T0 (mkF m 24 #[iv (-pt), iv 0, iv (-10 : Int32), iv 1] [(.int (-10 : Int32)), (.int (-pt))])
  refine hG.st (fun _ q => XS.icmpYes S0.here hx rfl (pc0 := 24) (pc' := 31) rfl (hb hby own_d21_24) rfl (flt ((by rw [Int32.lt_iff_toInt_lt, own_neg (x := pt) ⟨by omega, by omega⟩, show (-10 : Int32).toInt = -10 from by decide]; omega) : ¬ ((-10 : Int32) < (-pt)))).2.2.2 (by decide) (by decide) (XS.bipush S0.here hx rfl (hb hby own_d21_31) (XS.iloadN S0.here hx rfl (hb hby own_d21_33) rfl (XS.imul S0.here hx rfl (hb hby own_d21_34) rfl (XS.istoreN S0.here hx rfl (hb hby own_d21_35) rfl (l' := #[iv (-pt), iv 0, iv (-100 : Int32), iv 1]) rfl (XS.iinc S0.here hx rfl (hb hby own_d21_36) rfl (l' := #[iv (-pt), iv 0, iv (-100 : Int32), iv 2]) rfl q)))))) ?_
  show G T0 (mkF m 39 #[iv (-pt), iv 0, iv (-100 : Int32), iv 2] [])
  refine hG.st (fun _ q => XS.goto S0.here hx rfl (pc0 := 39) (pc' := 16) rfl (hb hby own_d21_39) (by decide) (by decide) (XS.iloadN S0.here hx rfl (hb hby own_d21_16) rfl (XS.bipush S0.here hx rfl (hb hby own_d21_17) (XS.icmpNo S0.here hx rfl (hb hby own_d21_19) rfl (tlt (by decide : (2 : Int32) < (10 : Int32))).2.1 (XS.iloadN S0.here hx rfl (hb hby own_d21_22) rfl (XS.iloadN S0.here hx rfl (hb hby own_d21_23) rfl q)))))) ?_
  show G T0 (mkF m 24 #[iv (-pt), iv 0, iv (-100 : Int32), iv 2] [(.int (-100 : Int32)), (.int (-pt))])
  refine hG.st (fun _ q => XS.icmpYes S0.here hx rfl (pc0 := 24) (pc' := 31) rfl (hb hby own_d21_24) rfl (flt ((by rw [Int32.lt_iff_toInt_lt, own_neg (x := pt) ⟨by omega, by omega⟩, show (-100 : Int32).toInt = -100 from by decide]; omega) : ¬ ((-100 : Int32) < (-pt)))).2.2.2 (by decide) (by decide) (XS.bipush S0.here hx rfl (hb hby own_d21_31) (XS.iloadN S0.here hx rfl (hb hby own_d21_33) rfl (XS.imul S0.here hx rfl (hb hby own_d21_34) rfl (XS.istoreN S0.here hx rfl (hb hby own_d21_35) rfl (l' := #[iv (-pt), iv 0, iv (-1000 : Int32), iv 2]) rfl (XS.iinc S0.here hx rfl (hb hby own_d21_36) rfl (l' := #[iv (-pt), iv 0, iv (-1000 : Int32), iv 3]) rfl q)))))) ?_
  show G T0 (mkF m 39 #[iv (-pt), iv 0, iv (-1000 : Int32), iv 3] [])
  refine hG.st (fun _ q => XS.goto S0.here hx rfl (pc0 := 39) (pc' := 16) rfl (hb hby own_d21_39) (by decide) (by decide) (XS.iloadN S0.here hx rfl (hb hby own_d21_16) rfl (XS.bipush S0.here hx rfl (hb hby own_d21_17) (XS.icmpNo S0.here hx rfl (hb hby own_d21_19) rfl (tlt (by decide : (3 : Int32) < (10 : Int32))).2.1 (XS.iloadN S0.here hx rfl (hb hby own_d21_22) rfl (XS.iloadN S0.here hx rfl (hb hby own_d21_23) rfl q)))))) ?_
  show G T0 (mkF m 24 #[iv (-pt), iv 0, iv (-1000 : Int32), iv 3] [(.int (-1000 : Int32)), (.int (-pt))])
  refine hG.st (fun _ q => XS.icmpNo S0.here hx rfl (hb hby own_d21_24) rfl (tlt ((by rw [Int32.lt_iff_toInt_lt, own_neg (x := pt) ⟨by omega, by omega⟩, show (-1000 : Int32).toInt = -1000 from by decide]; omega) : (-1000 : Int32) < (-pt))).2.2.2 (XS.iloadN S0.here hx rfl (hb hby own_d21_27) rfl (XS.iloadN S0.here hx rfl (hb hby own_d21_28) rfl (XS.iadd S0.here hx rfl (hb hby own_d21_29) rfl q)))) ?_
  show G T0 (mkF m 30 #[iv (-pt), iv 0, iv (-1000 : Int32), iv 3] [(.int 3)])
  exact Own.Sit.retO hR S0 hx hret rfl (Or.inl ⟨rfl, Or.inl rfl, _, rfl⟩) (hb hby own_d21_30) (by decide) (by decide) ⟨(Keep.refl _ _), rfl⟩
theorem own_d22_28 : decode jdk_33_method_12_code 28 = .ok (.iload_n 0, 1) := by decide +kernel
theorem own_d22_29 : decode jdk_33_method_12_code 29 = .ok (.bipush 100, 2) := by decide +kernel
theorem own_d22_31 : decode jdk_33_method_12_code 31 = .ok (.idiv, 1) := by decide +kernel
theorem own_d22_32 : decode jdk_33_method_12_code 32 = .ok (.istore_n 3, 1) := by decide +kernel
theorem own_d22_33 : decode jdk_33_method_12_code 33 = .ok (.iload_n 3, 1) := by decide +kernel
theorem own_d22_34 : decode jdk_33_method_12_code 34 = .ok (.bipush 100, 2) := by decide +kernel
theorem own_d22_36 : decode jdk_33_method_12_code 36 = .ok (.imul, 1) := by decide +kernel
theorem own_d22_37 : decode jdk_33_method_12_code 37 = .ok (.iload_n 0, 1) := by decide +kernel
theorem own_d22_38 : decode jdk_33_method_12_code 38 = .ok (.isub, 1) := by decide +kernel
theorem own_d22_39 : decode jdk_33_method_12_code 39 = .ok (.istore 4, 2) := by decide +kernel
theorem own_d22_41 : decode jdk_33_method_12_code 41 = .ok (.iload_n 3, 1) := by decide +kernel
theorem own_d22_42 : decode jdk_33_method_12_code 42 = .ok (.istore_n 0, 1) := by decide +kernel
theorem own_d22_43 : decode jdk_33_method_12_code 43 = .ok (.aload_n 2, 1) := by decide +kernel
theorem own_d22_44 : decode jdk_33_method_12_code 44 = .ok (.iinc 5 (-1), 3) := by decide +kernel
theorem own_d22_47 : decode jdk_33_method_12_code 47 = .ok (.iload 5, 2) := by decide +kernel
theorem own_d22_49 : decode jdk_33_method_12_code 49 = .ok (.getstatic 83, 3) := by decide +kernel
theorem own_d22_52 : decode jdk_33_method_12_code 52 = .ok (.iload 4, 2) := by decide +kernel
theorem own_d22_54 : decode jdk_33_method_12_code 54 = .ok (.baload, 1) := by decide +kernel
theorem own_d22_55 : decode jdk_33_method_12_code 55 = .ok (.bastore, 1) := by decide +kernel
theorem own_d22_56 : decode jdk_33_method_12_code 56 = .ok (.aload_n 2, 1) := by decide +kernel
theorem own_d22_57 : decode jdk_33_method_12_code 57 = .ok (.iinc 5 (-1), 3) := by decide +kernel
theorem own_d22_60 : decode jdk_33_method_12_code 60 = .ok (.iload 5, 2) := by decide +kernel
theorem own_d22_62 : decode jdk_33_method_12_code 62 = .ok (.getstatic 87, 3) := by decide +kernel
theorem own_d22_65 : decode jdk_33_method_12_code 65 = .ok (.iload 4, 2) := by decide +kernel
theorem own_d22_67 : decode jdk_33_method_12_code 67 = .ok (.baload, 1) := by decide +kernel
theorem own_d22_68 : decode jdk_33_method_12_code 68 = .ok (.bastore, 1) := by decide +kernel
theorem own_d22_69 : decode jdk_33_method_12_code 69 = .ok (.goto (-47), 3) := by decide +kernel
theorem own_ef_own_gch3 (m : MethodId) (cs : List Int32) (pt : Int32) (ar : Addr) : entryFrame m #[(.int pt), (.int (Int32.ofNat (cs.length + 3))), (.ref ar)] 7 = mkF m 0 #[iv pt, iv (Int32.ofNat (cs.length + 3)), rv ar, .unset, .unset, .unset, .unset] [] := by first | (simp [entryFrame, mkF, argsToLocals, Value.category]; done) | rfl
set_option maxRecDepth 65536 in
set_option maxHeartbeats 40000000 in
theorem own_gch3 (l : Launch) (Z : State) (a0 : Array Value) (H : own_Wld Z a0) {cw : List Jvm.Cond} (pt : Int32) (ar : Addr) (cs : List Int32) (d1 d2 : Addr) (h0 : Heap) (O0 : Ext Z.heap h0) {kv : ClassId} (A_r : Arv Z h0 ar kv .byte (16 : Int32) (own_buf cs) (.int 0)) (hsum : cs.length + 3 ≤ 16) (g_r : Z.heap.size ≤ ar) {k1 k2 : ClassId} (DG : own_Dig Z d1 d2 k1 k2) (hp : 100 ≤ pt.toInt ∧ pt.toInt ≤ 999) :
    Own.Con l Z consts_1 (⟨"java/lang/Integer", "getChars", "(II[B)I"⟩ : MethodName) jdk_33_method_12_code 7 (some .int) cw ({ frames := 0, cells := 0, slots := 0, locals := 0 } : Room) #[(.int pt), (.int (Int32.ofNat (cs.length + 3))), (.ref ar)] h0 (fun v h => Keep h0 h [ar] ∧ (∃ r, v = some (.int r)) ∧ Arv Z h ar kv .byte (16 : Int32) (own_buf (cs ++ own_dig3 pt)) (.int 0)) := by
  have hw := H.1
  have hW := fun (i : Nat) (w : Jvm.Cond) (e : tables_1[i]? = some w) => hw w (List.mem_of_getElem? e)
  have hCm := H.2.1
  have hSi := H.2.2.1
  have hEL := H.2.2.2
  have hWs : ∀ d ∈ StrChars.Road.words, d.before a0 Z = true := fun d hd => hw d (own_wbackV d hd)
  have hWl : ∀ d ∈ StrChars.Road.wordsLen, d.before a0 Z = true := fun d hd => hw d (own_wlenW d hd)
  have hSA : ∀ d ∈ Bundle.stringAtoms, d.before a0 Z = true := fun d hd => hw d (own_wSA d hd)
  refine Own.Con.of own_pna51775 hEL O0 ?_
  intro p e s m below meth c T0 G vm0 hx hby hml hret hnm hG hR S0
  have hz : ∀ L : Array Slot, L.size = 7 → L.size = c.maxLocals := fun L q => q.trans hml.symm
  rw [own_ef_own_gch3]
  show G T0 (mkF m 0 #[iv pt, iv (Int32.ofNat (cs.length + 3)), rv ar, .unset, .unset, .unset, .unset] [])
  obtain ⟨Sd1, Ad1, Sd2, Ad2⟩ := id DG
  refine hG.st (fun _ q => XS.iloadN S0.here hx rfl (hb hby own_d22_0) rfl (XS.istore S0.here hx rfl (hb hby own_d22_1) rfl (l' := #[iv pt, iv (Int32.ofNat (cs.length + 3)), rv ar, .unset, .unset, iv (Int32.ofNat (cs.length + 3)), .unset]) rfl (XS.iloadN S0.here hx rfl (hb hby own_d22_3) rfl (XS.ifYes S0.here hx rfl (pc0 := 4) (pc' := 11) rfl (hb hby own_d22_4) rfl ((if0 _ _).trans (flt ((by rw [Int32.lt_iff_toInt_lt, show (0 : Int32).toInt = 0 from by decide]; omega) : ¬ (pt < (0 : Int32)))).2.1) (by decide) (by decide) (XS.iconst S0.here hx rfl (hb hby own_d22_11) (XS.istore S0.here hx rfl (hb hby own_d22_12) rfl (l' := #[iv pt, iv (Int32.ofNat (cs.length + 3)), rv ar, .unset, .unset, iv (Int32.ofNat (cs.length + 3)), iv 0]) rfl q)))))) ?_
  show G T0 (mkF m 14 #[iv pt, iv (Int32.ofNat (cs.length + 3)), rv ar, .unset, .unset, iv (Int32.ofNat (cs.length + 3)), iv 0] [])
  refine hG.st (fun _ q => XS.iload S0.here hx rfl (hb hby own_d22_14) rfl (XS.ifNo S0.here hx rfl (hb hby own_d22_16) rfl ((if0 _ _).trans (teq (by decide : (0 : Int32) = (0 : Int32))).2) (XS.iloadN S0.here hx rfl (hb hby own_d22_19) rfl (XS.ineg S0.here hx rfl (hb hby own_d22_20) rfl (XS.istoreN S0.here hx rfl (hb hby own_d22_21) rfl (l' := #[iv (-pt), iv (Int32.ofNat (cs.length + 3)), rv ar, .unset, .unset, iv (Int32.ofNat (cs.length + 3)), iv 0]) rfl q))))) ?_
  show G T0 (mkF m 22 #[iv (-pt), iv (Int32.ofNat (cs.length + 3)), rv ar, .unset, .unset, iv (Int32.ofNat (cs.length + 3)), iv 0] [])
  obtain ⟨i0, ei0⟩ : ∃ z : Int32, z = (-pt) := ⟨_, rfl⟩
  rw [← ei0]
  show G T0 (mkF m 22 #[iv i0, iv (Int32.ofNat (cs.length + 3)), rv ar, .unset, .unset, iv (Int32.ofNat (cs.length + 3)), iv 0] [])
  have hi0 : i0.toInt = -(pt.toInt) := by rw [ei0, own_neg ⟨by omega, by omega⟩]
  refine hG.st (fun _ q => XS.iloadN S0.here hx rfl (hb hby own_d22_22) rfl (XS.bipush S0.here hx rfl (hb hby own_d22_23) (XS.icmpNo S0.here hx rfl (hb hby own_d22_25) rfl (flt ((by rw [Int32.lt_iff_toInt_lt, hi0, show (-100 : Int32).toInt = -100 from by decide]; omega) : ¬ ((-100 : Int32) < i0))).2.2.1 (XS.iloadN S0.here hx rfl (hb hby own_d22_28) rfl (XS.bipush S0.here hx rfl (hb hby own_d22_29) (XS.idiv S0.here hx rfl (hb hby own_d22_31) rfl (by decide) q)))))) ?_
  show G T0 (mkF m 32 #[iv i0, iv (Int32.ofNat (cs.length + 3)), rv ar, .unset, .unset, iv (Int32.ofNat (cs.length + 3)), iv 0] [(.int (i0 / (100 : Int32)))])
  refine hG.st (fun _ q => XS.istoreN S0.here hx rfl (hb hby own_d22_32) rfl (l' := #[iv i0, iv (Int32.ofNat (cs.length + 3)), rv ar, iv (i0 / (100 : Int32)), .unset, iv (Int32.ofNat (cs.length + 3)), iv 0]) rfl q) ?_
  show G T0 (mkF m 33 #[iv i0, iv (Int32.ofNat (cs.length + 3)), rv ar, iv (i0 / (100 : Int32)), .unset, iv (Int32.ofNat (cs.length + 3)), iv 0] [])
  obtain ⟨i1, ei1⟩ : ∃ z : Int32, z = (i0 / (100 : Int32)) := ⟨_, rfl⟩
  rw [← ei1]
  show G T0 (mkF m 33 #[iv i0, iv (Int32.ofNat (cs.length + 3)), rv ar, iv i1, .unset, iv (Int32.ofNat (cs.length + 3)), iv 0] [])
  refine hG.st (fun _ q => XS.iloadN S0.here hx rfl (hb hby own_d22_33) rfl (XS.bipush S0.here hx rfl (hb hby own_d22_34) (XS.imul S0.here hx rfl (hb hby own_d22_36) rfl (XS.iloadN S0.here hx rfl (hb hby own_d22_37) rfl (XS.isub S0.here hx rfl (hb hby own_d22_38) rfl (XS.istore S0.here hx rfl (hb hby own_d22_39) rfl (l' := #[iv i0, iv (Int32.ofNat (cs.length + 3)), rv ar, iv i1, iv ((i1 * (100 : Int32)) - i0), iv (Int32.ofNat (cs.length + 3)), iv 0]) rfl q)))))) ?_
  show G T0 (mkF m 41 #[iv i0, iv (Int32.ofNat (cs.length + 3)), rv ar, iv i1, iv ((i1 * (100 : Int32)) - i0), iv (Int32.ofNat (cs.length + 3)), iv 0] [])
  obtain ⟨r1, er1⟩ : ∃ z : Int32, z = ((i1 * (100 : Int32)) - i0) := ⟨_, rfl⟩
  rw [← er1]
  show G T0 (mkF m 41 #[iv i0, iv (Int32.ofNat (cs.length + 3)), rv ar, iv i1, iv r1, iv (Int32.ofNat (cs.length + 3)), iv 0] [])
  have g1 := own_g1 hi0 ⟨by omega, by omega⟩
  have hi1 : i1.toInt = -(pt.toInt / 100) := by rw [ei1]; exact g1.1
  have hr1 : r1.toInt = pt.toInt % 100 := by rw [er1, ei1]; exact g1.2
  refine hG.st (fun _ q => XS.iloadN S0.here hx rfl (hb hby own_d22_41) rfl (XS.istoreN S0.here hx rfl (hb hby own_d22_42) rfl (l' := #[iv i1, iv (Int32.ofNat (cs.length + 3)), rv ar, iv i1, iv r1, iv (Int32.ofNat (cs.length + 3)), iv 0]) rfl (XS.aloadN S0.here hx rfl (hb hby own_d22_43) rfl rfl (XS.iinc S0.here hx rfl (hb hby own_d22_44) rfl (l' := #[iv i1, iv (Int32.ofNat (cs.length + 3)), rv ar, iv i1, iv r1, iv ((Int32.ofNat (cs.length + 3)) + (-1 : Int32)), iv 0]) rfl q)))) ?_
  show G T0 (mkF m 47 #[iv i1, iv (Int32.ofNat (cs.length + 3)), rv ar, iv i1, iv r1, iv ((Int32.ofNat (cs.length + 3)) + (-1 : Int32)), iv 0] [(.ref ar)])
  rw [show (Int32.ofNat (cs.length + 3)) + (-1 : Int32) = Int32.ofNat (cs.length + 2) from own_dec (cs.length + 2)]
  show G T0 (mkF m 47 #[iv i1, iv (Int32.ofNat (cs.length + 3)), rv ar, iv i1, iv r1, iv (Int32.ofNat (cs.length + 2)), iv 0] [(.ref ar)])
  refine hG.st (fun _ q => XS.iload S0.here hx rfl (hb hby own_d22_47) rfl q) ?_
  show G T0 (mkF m 49 #[iv i1, iv (Int32.ofNat (cs.length + 3)), rv ar, iv i1, iv r1, iv (Int32.ofNat (cs.length + 2)), iv 0] [(.int (Int32.ofNat (cs.length + 2))), (.ref ar)])
  refine Own.Sit.getS hG S0 hx (host := "") (Or.inl (hW 159 _ rfl)) Via.refl (Sd1.ext S0.old) rfl (hb hby own_d22_49) (fun T255 S255 => ?_)
  refine hG.st (fun _ q => XS.iload S255.here hx rfl (hb hby own_d22_52) rfl q) ?_
  show G T255 (mkF m 54 #[iv i1, iv (Int32.ofNat (cs.length + 3)), rv ar, iv i1, iv r1, iv (Int32.ofNat (cs.length + 2)), iv 0] [(.int r1), (.ref d1), (.int (Int32.ofNat (cs.length + 2))), (.ref ar)])
  have V256 := Ad1.ext S255.old
  have hj257 : ¬ r1 < 0 ∧ r1 < 100 := ⟨by rw [Int32.lt_iff_toInt_lt, hr1, show (0 : Int32).toInt = 0 from rfl]; omega, by rw [Int32.lt_iff_toInt_lt, hr1, show (100 : Int32).toInt = 100 from rfl]; omega⟩
  refine Own.Sit.baload hG S255 hx V256 hj257 (own_ones_at hj257) rfl rfl (hb hby own_d22_54) ?_
  show G T255 (mkF m 55 #[iv i1, iv (Int32.ofNat (cs.length + 3)), rv ar, iv i1, iv r1, iv (Int32.ofNat (cs.length + 2)), iv 0] [(.int ((48 : Int32) + (r1 % (10 : Int32)))), (.int (Int32.ofNat (cs.length + 2))), (.ref ar)])
  refine Own.Sit.stB hG S255 hx A_r g_r (Own.Safe.size S255.warm A_r (hW 6 _ rfl) (own_sz16 hw)) (own_idx (by omega)) (cs.length + 2) (own_tn (by omega)) (by (try simp only [List.length_set]); rw [own_bufl (by omega)]; omega) rfl rfl (hb hby own_d22_55) (fun T258 h258 S258 J258 V258 => ?_)
  refine hG.st (fun _ q => XS.aloadN S258.here hx rfl (hb hby own_d22_56) rfl rfl (XS.iinc S258.here hx rfl (hb hby own_d22_57) rfl (l' := #[iv i1, iv (Int32.ofNat (cs.length + 3)), rv ar, iv i1, iv r1, iv ((Int32.ofNat (cs.length + 2)) + (-1 : Int32)), iv 0]) rfl q)) ?_
  show G T258 (mkF m 60 #[iv i1, iv (Int32.ofNat (cs.length + 3)), rv ar, iv i1, iv r1, iv ((Int32.ofNat (cs.length + 2)) + (-1 : Int32)), iv 0] [(.ref ar)])
  rw [show (Int32.ofNat (cs.length + 2)) + (-1 : Int32) = Int32.ofNat (cs.length + 1) from own_dec (cs.length + 1)]
  show G T258 (mkF m 60 #[iv i1, iv (Int32.ofNat (cs.length + 3)), rv ar, iv i1, iv r1, iv (Int32.ofNat (cs.length + 1)), iv 0] [(.ref ar)])
  refine hG.st (fun _ q => XS.iload S258.here hx rfl (hb hby own_d22_60) rfl q) ?_
  show G T258 (mkF m 62 #[iv i1, iv (Int32.ofNat (cs.length + 3)), rv ar, iv i1, iv r1, iv (Int32.ofNat (cs.length + 1)), iv 0] [(.int (Int32.ofNat (cs.length + 1))), (.ref ar)])
  refine Own.Sit.getS hG S258 hx (host := "") (Or.inl (hW 221 _ rfl)) Via.refl (Sd2.ext S258.old) rfl (hb hby own_d22_62) (fun T259 S259 => ?_)
  refine hG.st (fun _ q => XS.iload S259.here hx rfl (hb hby own_d22_65) rfl q) ?_
  show G T259 (mkF m 67 #[iv i1, iv (Int32.ofNat (cs.length + 3)), rv ar, iv i1, iv r1, iv (Int32.ofNat (cs.length + 1)), iv 0] [(.int r1), (.ref d2), (.int (Int32.ofNat (cs.length + 1))), (.ref ar)])
  have V260 := Ad2.ext S259.old
  have hj261 : ¬ r1 < 0 ∧ r1 < 100 := ⟨by rw [Int32.lt_iff_toInt_lt, hr1, show (0 : Int32).toInt = 0 from rfl]; omega, by rw [Int32.lt_iff_toInt_lt, hr1, show (100 : Int32).toInt = 100 from rfl]; omega⟩
  refine Own.Sit.baload hG S259 hx V260 hj261 (own_tens_at hj261) rfl rfl (hb hby own_d22_67) ?_
  show G T259 (mkF m 68 #[iv i1, iv (Int32.ofNat (cs.length + 3)), rv ar, iv i1, iv r1, iv (Int32.ofNat (cs.length + 1)), iv 0] [(.int ((48 : Int32) + (r1 / (10 : Int32)))), (.int (Int32.ofNat (cs.length + 1))), (.ref ar)])
  refine Own.Sit.stB hG S259 hx V258 g_r (Own.Safe.size S259.warm V258 (hW 6 _ rfl) (own_sz16 hw)) (own_idx (by omega)) (cs.length + 1) (own_tn (by omega)) (by (try simp only [List.length_set]); rw [own_bufl (by omega)]; omega) rfl rfl (hb hby own_d22_68) (fun T262 h262 S262 J262 V262 => ?_)
  refine hG.st (fun _ q => XS.goto S262.here hx rfl (pc0 := 69) (pc' := 22) rfl (hb hby own_d22_69) (by decide) (by decide) (XS.iloadN S262.here hx rfl (hb hby own_d22_22) rfl (XS.bipush S262.here hx rfl (hb hby own_d22_23) (XS.icmpYes S262.here hx rfl (pc0 := 25) (pc' := 72) rfl (hb hby own_d22_25) rfl (tlt ((by rw [Int32.lt_iff_toInt_lt, hi1, show (-100 : Int32).toInt = -100 from by decide]; omega) : (-100 : Int32) < i1)).2.2.1 (by decide) (by decide) (XS.aloadN S262.here hx rfl (hb hby own_d22_72) rfl rfl (XS.iinc S262.here hx rfl (hb hby own_d22_73) rfl (l' := #[iv i1, iv (Int32.ofNat (cs.length + 3)), rv ar, iv i1, iv r1, iv ((Int32.ofNat (cs.length + 1)) + (-1 : Int32)), iv 0]) rfl q)))))) ?_
  show G T262 (mkF m 76 #[iv i1, iv (Int32.ofNat (cs.length + 3)), rv ar, iv i1, iv r1, iv ((Int32.ofNat (cs.length + 1)) + (-1 : Int32)), iv 0] [(.ref ar)])
  rw [show (Int32.ofNat (cs.length + 1)) + (-1 : Int32) = Int32.ofNat (cs.length + 0) from own_dec (cs.length + 0)]
  show G T262 (mkF m 76 #[iv i1, iv (Int32.ofNat (cs.length + 3)), rv ar, iv i1, iv r1, iv (Int32.ofNat (cs.length + 0)), iv 0] [(.ref ar)])
  refine hG.st (fun _ q => XS.iload S262.here hx rfl (hb hby own_d22_76) rfl q) ?_
  show G T262 (mkF m 78 #[iv i1, iv (Int32.ofNat (cs.length + 3)), rv ar, iv i1, iv r1, iv (Int32.ofNat (cs.length + 0)), iv 0] [(.int (Int32.ofNat (cs.length + 0))), (.ref ar)])
  refine Own.Sit.getS hG S262 hx (host := "") (Or.inl (hW 159 _ rfl)) Via.refl (Sd1.ext S262.old) rfl (hb hby own_d22_78) (fun T263 S263 => ?_)
  refine hG.st (fun _ q => XS.iloadN S263.here hx rfl (hb hby own_d22_81) rfl (XS.ineg S263.here hx rfl (hb hby own_d22_82) rfl q)) ?_
  show G T263 (mkF m 83 #[iv i1, iv (Int32.ofNat (cs.length + 3)), rv ar, iv i1, iv r1, iv (Int32.ofNat (cs.length + 0)), iv 0] [(.int (-i1)), (.ref d1), (.int (Int32.ofNat (cs.length + 0))), (.ref ar)])
  have V264 := Ad1.ext S263.old
  have hj265 : ¬ (-i1) < 0 ∧ (-i1) < 100 := ⟨by rw [Int32.lt_iff_toInt_lt, own_neg ⟨by omega, by omega⟩, show (0 : Int32).toInt = 0 from rfl]; omega, by rw [Int32.lt_iff_toInt_lt, own_neg ⟨by omega, by omega⟩, show (100 : Int32).toInt = 100 from rfl]; omega⟩
  refine Own.Sit.baload hG S263 hx V264 hj265 (own_ones_at hj265) rfl rfl (hb hby own_d22_83) ?_
  show G T263 (mkF m 84 #[iv i1, iv (Int32.ofNat (cs.length + 3)), rv ar, iv i1, iv r1, iv (Int32.ofNat (cs.length + 0)), iv 0] [(.int ((48 : Int32) + ((-i1) % (10 : Int32)))), (.int (Int32.ofNat (cs.length + 0))), (.ref ar)])
  refine Own.Sit.stB hG S263 hx V262 g_r (Own.Safe.size S263.warm V262 (hW 6 _ rfl) (own_sz16 hw)) (own_idx (by omega)) (cs.length + 0) (own_tn (by omega)) (by (try simp only [List.length_set]); rw [own_bufl (by omega)]; omega) rfl rfl (hb hby own_d22_84) (fun T266 h266 S266 J266 V266 => ?_)
  refine hG.st (fun _ q => XS.iloadN S266.here hx rfl (hb hby own_d22_85) rfl (XS.bipush S266.here hx rfl (hb hby own_d22_86) (XS.icmpYes S266.here hx rfl (pc0 := 88) (pc' := 104) rfl (hb hby own_d22_88) rfl (flt ((by rw [Int32.lt_iff_toInt_lt, hi1, show (-9 : Int32).toInt = -9 from by decide]; omega) : ¬ (i1 < (-9 : Int32)))).2.1 (by decide) (by decide) (XS.iload S266.here hx rfl (hb hby own_d22_104) rfl (XS.ifYes S266.here hx rfl (pc0 := 106) (pc' := 118) rfl (hb hby own_d22_106) rfl ((if0 _ _).trans (teq (by decide : (0 : Int32) = (0 : Int32))).1) (by decide) (by decide) (XS.iload S266.here hx rfl (hb hby own_d22_118) rfl q)))))) ?_
  show G T266 (mkF m 120 #[iv i1, iv (Int32.ofNat (cs.length + 3)), rv ar, iv i1, iv r1, iv (Int32.ofNat (cs.length + 0)), iv 0] [(.int (Int32.ofNat (cs.length + 0)))])
  have pp := own_p (p := pt) (by omega)
  have xx267 : (-i1).toInt = -(-((pt.toInt / 100))) := by rw [own_neg (x := i1) ⟨by omega, by omega⟩, hi1]
  have ee267 : ((48 : Int32) + ((-i1) % (10 : Int32))) = (48 : Int32) + (pt / 100 % 10) := congrArg (fun z => (48 : Int32) + z) (Int32.toInt_inj.mp (by rw [(own_t10 (x := (-i1)) (by omega)).1, pp.2.2.1]; omega))
  have xx268 : r1.toInt = pt.toInt % 100 := by rw [hr1]
  have ee268 : ((48 : Int32) + (r1 / (10 : Int32))) = (48 : Int32) + (pt / 10 % 10) := congrArg (fun z => (48 : Int32) + z) (Int32.toInt_inj.mp (by rw [(own_t10 (x := r1) (by omega)).2, pp.2.1]; omega))
  have xx269 : r1.toInt = pt.toInt % 100 := by rw [hr1]
  have ee269 : ((48 : Int32) + (r1 % (10 : Int32))) = (48 : Int32) + (pt % 10) := congrArg (fun z => (48 : Int32) + z) (Int32.toInt_inj.mp (by rw [(own_t10 (x := r1) (by omega)).1, pp.1]; omega))
  have Af : Arv Z h266 ar kv .byte (16 : Int32) (own_buf (cs ++ own_dig3 pt)) (.int 0) := by
    have q := V266
    rw [own_lst3 _ _ _ hsum, ee267, ee268, ee269] at q
    exact q
  have J270 : Own.Stp Z consts_1 vm0 h0 vm0 h262 [ar] := Own.Stp.trans J258 J262 (allS (List.mem_of_getElem? (i := 0) rfl) (all0)) (allS (Or.inl (List.mem_of_getElem? (i := 0) rfl)) all0)
  have J271 : Own.Stp Z consts_1 vm0 h0 vm0 h266 [ar] := Own.Stp.trans J270 J266 (allS (List.mem_of_getElem? (i := 0) rfl) (all0)) (allS (Or.inl (List.mem_of_getElem? (i := 0) rfl)) all0)
  exact Own.Sit.retO hR S266 hx hret rfl (Or.inl ⟨rfl, Or.inl rfl, _, rfl⟩) (hb hby own_d22_120) (by decide) (by decide) ⟨J271.1, ⟨_, rfl⟩, Af⟩
theorem own_ef_own_api3 (m : MethodId) (b : Addr) (pt : Int32) : entryFrame m #[(.ref b), (.int pt)] 4 = mkF m 0 #[rv b, iv pt, .unset, .unset] [] := by first | (simp [entryFrame, mkF, argsToLocals, Value.category]; done) | rfl
set_option maxRecDepth 65536 in
set_option maxHeartbeats 40000000 in
theorem own_api3 (l : Launch) (Z : State) (a0 : Array Value) (H : own_Wld Z a0) {cw : List Jvm.Cond} (b : Addr) (pt : Int32) (ar : Addr) (cs : List Int32) (d1 d2 : Addr) (h0 : Heap) (O0 : Ext Z.heap h0) {kv : ClassId} (SB : own_SB Z h0 b ar kv cs) (hsum : cs.length + 3 ≤ 16) (g_b : Z.heap.size ≤ b) (g_r : Z.heap.size ≤ ar) {k1 k2 : ClassId} (DG : own_Dig Z d1 d2 k1 k2) (hp : 100 ≤ pt.toInt ∧ pt.toInt ≤ 999) :
    Own.Con l Z consts_1 (⟨"java/lang/AbstractStringBuilder", "append", "(I)Ljava/lang/AbstractStringBuilder;"⟩ : MethodName) jdk_68_method_32_code 4 (some (.object "java/lang/AbstractStringBuilder")) cw ({ frames := 1, cells := 0, slots := 0, locals := 18 } : Room) #[(.ref b), (.int pt)] h0 (fun v h => Keep h0 h [b, ar] ∧ v = some (.ref b) ∧ own_SB Z h b ar kv (cs ++ own_dig3 pt)) := by
  have hw := H.1
  have hW := fun (i : Nat) (w : Jvm.Cond) (e : tables_1[i]? = some w) => hw w (List.mem_of_getElem? e)
  have hCm := H.2.1
  have hSi := H.2.2.1
  have hEL := H.2.2.2
  have hWs : ∀ d ∈ StrChars.Road.words, d.before a0 Z = true := fun d hd => hw d (own_wbackV d hd)
  have hWl : ∀ d ∈ StrChars.Road.wordsLen, d.before a0 Z = true := fun d hd => hw d (own_wlenW d hd)
  have hSA : ∀ d ∈ Bundle.stringAtoms, d.before a0 Z = true := fun d hd => hw d (own_wSA d hd)
  refine Own.Con.of own_pn4294e0 hEL O0 ?_
  intro p e s m below meth c T0 G vm0 hx hby hml hret hnm hG hR S0
  have hz : ∀ L : Array Slot, L.size = 4 → L.size = c.maxLocals := fun L q => q.trans hml.symm
  rw [own_ef_own_api3]
  show G T0 (mkF m 0 #[rv b, iv pt, .unset, .unset] [])
  obtain ⟨E_b272, Fv_b272, Fc_b272, Fn_b272, A_r272⟩ := id SB
  refine hG.st (fun _ q => XS.aloadN S0.here hx rfl (hb hby own_d23_0) rfl rfl q) ?_
  show G T0 (mkF m 1 #[rv b, iv pt, .unset, .unset] [(.ref b)])
  refine Own.Sit.getF hG S0 hx (host := "") (Or.inl (hW 111 _ rfl)) Via.refl Fn_b272 rfl rfl (hb hby own_d23_1) (fun T273 S273 => ?_)
  refine hG.st (fun _ q => XS.istoreN S273.here hx rfl (hb hby own_d23_4) rfl (l' := #[rv b, iv pt, iv (Int32.ofNat cs.length), .unset]) rfl (XS.iloadN S273.here hx rfl (hb hby own_d23_5) rfl (XS.iloadN S273.here hx rfl (hb hby own_d23_6) rfl q))) ?_
  show G T273 (mkF m 7 #[rv b, iv pt, iv (Int32.ofNat cs.length), .unset] [(.int pt), (.int (Int32.ofNat cs.length))])
  refine Own.Sit.callS hG S273 hx hEL (as := [(.int pt)]) (hW 147 _ rfl) (hW 148 _ rfl) (hW 149 _ rfl) (hW 150 _ rfl) (by decide) (own_ssz3 l Z a0 H pt h0 S273.old hp) own_pd89c469 rfl rfl (hz _ rfl) (rest := [(.int (Int32.ofNat cs.length))]) rfl (W := 1) (Own.hw0 rfl rfl) (hb hby own_d23_7) (by decide) (by decide) (by decide) (by decide) (fun v274 vm274 T274 h274 S274 C274 q274 => ?_)
  obtain ⟨K274, rfl⟩ := q274
  have J274 : Own.Stp Z consts_1 vm0 h0 vm274 h274 [] := ⟨K274, C274⟩
  refine hG.st (fun _ q => XS.iadd S274.here hx rfl (hb hby own_d23_10) rfl q) ?_
  show G T274 (mkF m 11 #[rv b, iv pt, iv (Int32.ofNat cs.length), .unset] [(.int ((Int32.ofNat cs.length) + (3 : Int32)))])
  rw [show (Int32.ofNat cs.length) + (3 : Int32) = Int32.ofNat (cs.length + 3) from own_addn cs.length 3]
  show G T274 (mkF m 11 #[rv b, iv pt, iv (Int32.ofNat cs.length), .unset] [(.int (Int32.ofNat (cs.length + 3)))])
  refine hG.st (fun _ q => XS.istoreN S274.here hx rfl (hb hby own_d23_11) rfl (l' := #[rv b, iv pt, iv (Int32.ofNat cs.length), iv (Int32.ofNat (cs.length + 3))]) rfl (XS.aloadN S274.here hx rfl (hb hby own_d23_12) rfl rfl (XS.iloadN S274.here hx rfl (hb hby own_d23_13) rfl q))) ?_
  show G T274 (mkF m 14 #[rv b, iv pt, iv (Int32.ofNat cs.length), iv (Int32.ofNat (cs.length + 3))] [(.int (Int32.ofNat (cs.length + 3))), (.ref b)])
  have E275 := J274.exa E_b272
  have F276 := J274.fld Fv_b272 nin0
  have F277 := J274.fld Fc_b272 nin0
  have F278 := J274.fld Fn_b272 nin0
  have V279 := J274.arv A_r272 nin0
  have SB280 : own_SB Z h274 b ar kv cs := ⟨E275, F276, F277, F278, V279⟩
  refine Own.Sit.callPS hG S274 hx hEL (as := [(.int (Int32.ofNat (cs.length + 3)))]) (hW 113 _ rfl) (hW 115 _ rfl) (hW 116 _ rfl) (hW 114 _ rfl) (hW 88 _ rfl) (hW 117 _ rfl) (by decide) E275 (own_ens l Z a0 H b (Int32.ofNat (cs.length + 3)) ar cs h274 S274.old SB280 (own_ec hsum)) own_pdc76b35 rfl rfl (hz _ rfl) (rest := []) rfl (W := 0) (Own.hw0 rfl rfl) (hb hby own_d23_14) (by decide) (by decide) (by decide) (by decide) (fun v281 vm281 T281 h281 S281 C281 q281 => ?_)
  obtain ⟨K281, rfl⟩ := q281
  have J281 : Own.Stp Z consts_1 vm274 h274 vm281 h281 [] := ⟨K281, C281⟩
  refine hG.st (fun _ q => XS.aloadN S281.here hx rfl (hb hby own_d23_17) rfl rfl q) ?_
  show G T281 (mkF m 18 #[rv b, iv pt, iv (Int32.ofNat cs.length), iv (Int32.ofNat (cs.length + 3))] [(.ref b)])
  have E282 := J281.exa E275
  have F283 := J281.fld F276 nin0
  have F284 := J281.fld F277 nin0
  have F285 := J281.fld F278 nin0
  have V286 := J281.arv V279 nin0
  have SB287 : own_SB Z h281 b ar kv cs := ⟨E282, F283, F284, F285, V286⟩
  refine Own.Sit.callV hG S281 hx hEL (as := []) (hW 151 _ rfl) (hW 152 _ rfl) (hW 154 _ rfl) (hW 153 _ rfl) (hW 88 _ rfl) (hW 155 _ rfl) (by decide) E282 (own_alat l Z a0 H b ar cs h281 S281.old SB287) own_pdbfe1a5 rfl rfl (hz _ rfl) (rest := []) rfl (W := 0) (Own.hw0 rfl rfl) (hb hby own_d23_18) (by decide) (by decide) (by decide) (by decide) (fun v288 vm288 T288 h288 S288 C288 q288 => ?_)
  obtain ⟨K288, rfl⟩ := q288
  have J288 : Own.Stp Z consts_1 vm281 h281 vm288 h288 [] := ⟨K288, C288⟩
  refine hG.st (fun _ q => XS.ifNo S288.here hx rfl (hb hby own_d23_21) rfl ((if0 _ _).trans (feq (by decide : ¬ ((1 : Int32) = (0 : Int32)))).1) (XS.iloadN S288.here hx rfl (hb hby own_d23_24) rfl (XS.iloadN S288.here hx rfl (hb hby own_d23_25) rfl (XS.aloadN S288.here hx rfl (hb hby own_d23_26) rfl rfl q)))) ?_
  show G T288 (mkF m 27 #[rv b, iv pt, iv (Int32.ofNat cs.length), iv (Int32.ofNat (cs.length + 3))] [(.ref b), (.int (Int32.ofNat (cs.length + 3))), (.int pt)])
  have F289 := J288.fld F283 nin0
  refine Own.Sit.getF hG S288 hx (host := "") (Or.inl (hW 92 _ rfl)) Via.refl F289 rfl rfl (hb hby own_d23_27) (fun T290 S290 => ?_)
  have V291 := J288.arv V286 nin0
  show G T290 (mkF m 30 #[rv b, iv pt, iv (Int32.ofNat cs.length), iv (Int32.ofNat (cs.length + 3))] [(.ref ar), (.int (Int32.ofNat (cs.length + 3))), (.int pt)])
  refine Own.Sit.callS hG S290 hx hEL (as := [(.int pt), (.int (Int32.ofNat (cs.length + 3))), (.ref ar)]) (hW 156 _ rfl) (hW 157 _ rfl) (hW 149 _ rfl) (hW 158 _ rfl) (by decide) (own_gch3 l Z a0 H pt ar cs d1 d2 h288 S290.old V291 hsum g_r DG hp) own_pdca675b rfl rfl (hz _ rfl) (rest := []) rfl (W := 0) (Own.hw0 rfl rfl) (hb hby own_d23_30) (by decide) (by decide) (by decide) (by decide) (fun v292 vm292 T292 h292 S292 C292 q292 => ?_)
  obtain ⟨K292, ⟨r292, rfl⟩, A292⟩ := q292
  have J292 : Own.Stp Z consts_1 vm288 h288 vm292 h292 [ar] := ⟨K292, C292⟩
  refine hG.st (fun _ q => XS.pop S292.here hx rfl (hb hby own_d23_33) rfl rfl (XS.goto S292.here hx rfl (pc0 := 34) (pc' := 48) rfl (hb hby own_d23_34) (by decide) (by decide) (XS.aloadN S292.here hx rfl (hb hby own_d23_48) rfl rfl (XS.iloadN S292.here hx rfl (hb hby own_d23_49) rfl q)))) ?_
  show G T292 (mkF m 50 #[rv b, iv pt, iv (Int32.ofNat cs.length), iv (Int32.ofNat (cs.length + 3))] [(.int (Int32.ofNat (cs.length + 3))), (.ref b)])
  have J293 : Own.Stp Z consts_1 vm281 h281 vm292 h292 [ar] := Own.Stp.trans J288 J292 (all0) (allS (Or.inl (List.mem_of_getElem? (i := 0) rfl)) all0)
  have J295 : Own.Stp Z consts_1 vm0 h0 vm281 h281 [] := Own.Stp.trans J274 J281 (all0) all0
  have J296 : Own.Stp Z consts_1 vm0 h0 vm288 h288 [] := Own.Stp.trans J295 J288 (all0) all0
  have J297 : Own.Stp Z consts_1 vm0 h0 vm292 h292 [ar] := Own.Stp.trans J296 J292 (all0) (allS (Or.inl (List.mem_of_getElem? (i := 0) rfl)) all0)
  have F294 := J293.fld F285 (ninS (Exa.neArv (J297.exa E_b272) A292 (hW 79 _ rfl)) nin0)
  have E298 := J293.exa E282
  have F300 := J292.fld F289 (ninS (Exa.neArv (J297.exa E_b272) A292 (hW 79 _ rfl)) nin0)
  have F301 := J293.fld F284 (ninS (Exa.neArv (J297.exa E_b272) A292 (hW 79 _ rfl)) nin0)
  refine Own.Sit.putF hG S292 hx (host := "") (Or.inl (hW 111 _ rfl)) Via.refl F294 E298 (Or.inl (hW 112 _ rfl)) (hW 79 _ rfl) (ty := .int) (by decide) rfl rfl g_b (Safe.exa S292.warm.alike E298 (by decide) (by decide)) rfl rfl (hb hby own_d23_50) (fun T299 h299 S299 J299 W299 F299 => ?_)
  have F302 := Fld.other W299 F300 (Or.inr (slot_ne (Or.inl (hW 93 _ rfl)) (Or.inl (hW 112 _ rfl)) (by decide) (t := (.array .byte)) (by decide) (t' := .int) (by decide)))
  have F303 := Fld.other W299 F301 (Or.inr (slot_ne (Or.inl (hW 95 _ rfl)) (Or.inl (hW 112 _ rfl)) (by decide) (t := .byte) (by decide) (t' := .int) (by decide)))
  refine hG.st (fun _ q => XS.aloadN S299.here hx rfl (hb hby own_d23_53) rfl rfl q) ?_
  show G T299 (mkF m 54 #[rv b, iv pt, iv (Int32.ofNat cs.length), iv (Int32.ofNat (cs.length + 3))] [(.ref b)])
  have J304 : Own.Stp Z consts_1 vm0 h0 vm292 h299 [ar, b] := Own.Stp.trans J297 J299 (allS (List.mem_of_getElem? (i := 0) rfl) (all0)) (allS (Or.inl (List.mem_of_getElem? (i := 1) rfl)) all0)
  have E305 := J299.exa E298
  have V306 := J299.arv A292 (ninS (Ne.symm (Exa.neArv (J297.exa E_b272) A292 (hW 79 _ rfl))) nin0)
  exact Own.Sit.retO hR S299 hx hret rfl (Or.inr (Or.inr (Or.inr (Or.inr ⟨rfl, rfl, rfl⟩)))) (hb hby own_d23_54) (by decide) (by decide) ⟨(Own.keep_mono J304.1 (allS (List.mem_of_getElem? (i := 1) rfl) (allS (List.mem_of_getElem? (i := 0) rfl) all0))), rfl, E305, F302, F303, (by rw [List.length_append]; exact F299), V306⟩
theorem own_ef_own_bpi3 (m : MethodId) (b : Addr) (pt : Int32) : entryFrame m #[(.ref b), (.int pt)] 2 = mkF m 0 #[rv b, iv pt] [] := by first | (simp [entryFrame, mkF, argsToLocals, Value.category]; done) | rfl
set_option maxRecDepth 65536 in
set_option maxHeartbeats 40000000 in
theorem own_bpi3 (l : Launch) (Z : State) (a0 : Array Value) (H : own_Wld Z a0) {cw : List Jvm.Cond} (b : Addr) (pt : Int32) (ar : Addr) (cs : List Int32) (d1 d2 : Addr) (h0 : Heap) (O0 : Ext Z.heap h0) {kv : ClassId} (SB : own_SB Z h0 b ar kv cs) (hsum : cs.length + 3 ≤ 16) (g_b : Z.heap.size ≤ b) (g_r : Z.heap.size ≤ ar) {k1 k2 : ClassId} (DG : own_Dig Z d1 d2 k1 k2) (hp : 100 ≤ pt.toInt ∧ pt.toInt ≤ 999) :
    Own.Con l Z consts_1 (⟨"java/lang/StringBuilder", "append", "(I)Ljava/lang/StringBuilder;"⟩ : MethodName) jdk_67_method_15_code 2 (some (.object "java/lang/StringBuilder")) cw ({ frames := 2, cells := 0, slots := 0, locals := 33 } : Room) #[(.ref b), (.int pt)] h0 (fun v h => Keep h0 h [b, ar] ∧ v = some (.ref b) ∧ own_SB Z h b ar kv (cs ++ own_dig3 pt)) := by
  have hw := H.1
  have hW := fun (i : Nat) (w : Jvm.Cond) (e : tables_1[i]? = some w) => hw w (List.mem_of_getElem? e)
  have hCm := H.2.1
  have hSi := H.2.2.1
  have hEL := H.2.2.2
  have hWs : ∀ d ∈ StrChars.Road.words, d.before a0 Z = true := fun d hd => hw d (own_wbackV d hd)
  have hWl : ∀ d ∈ StrChars.Road.wordsLen, d.before a0 Z = true := fun d hd => hw d (own_wlenW d hd)
  have hSA : ∀ d ∈ Bundle.stringAtoms, d.before a0 Z = true := fun d hd => hw d (own_wSA d hd)
  refine Own.Con.of own_pn6aade2 hEL O0 ?_
  intro p e s m below meth c T0 G vm0 hx hby hml hret hnm hG hR S0
  have hz : ∀ L : Array Slot, L.size = 2 → L.size = c.maxLocals := fun L q => q.trans hml.symm
  rw [own_ef_own_bpi3]
  show G T0 (mkF m 0 #[rv b, iv pt] [])
  obtain ⟨E_b307, Fv_b307, Fc_b307, Fn_b307, A_r307⟩ := id SB
  refine hG.st (fun _ q => XS.aloadN S0.here hx rfl (hb hby own_d24_0) rfl rfl (XS.iloadN S0.here hx rfl (hb hby own_d24_1) rfl q)) ?_
  show G T0 (mkF m 2 #[rv b, iv pt] [(.int pt), (.ref b)])
  have SB308 : own_SB Z h0 b ar kv cs := ⟨E_b307, Fv_b307, Fc_b307, Fn_b307, A_r307⟩
  refine Own.Sit.callU hG S0 hx hEL (as := [(.int pt)]) (hW 143 _ rfl) (Own.same_of (by decide) (hW 144 _ rfl) (hW 116 _ rfl) rfl) (hW 144 _ rfl) (hW 103 _ rfl) (by decide) (hW 88 _ rfl) (hW 146 _ rfl) E_b307 (own_api3 l Z a0 H b pt ar cs d1 d2 h0 S0.old SB308 hsum g_b g_r DG hp) own_pd757924 rfl rfl (hz _ rfl) (rest := []) rfl (W := 0) (Own.hw0 rfl rfl) (hb hby own_d24_2) (by decide) (by decide) (by decide) (by decide) (fun v309 vm309 T309 h309 S309 C309 q309 => ?_)
  obtain ⟨K309, rfl, SB309⟩ := q309
  have J309 : Own.Stp Z consts_1 vm0 h0 vm309 h309 [b, ar] := ⟨K309, C309⟩
  obtain ⟨E_b310, Fv_b310, Fc_b310, Fn_b310, A_r310⟩ := id SB309
  refine hG.st (fun _ q => XS.pop S309.here hx rfl (hb hby own_d24_5) rfl rfl (XS.aloadN S309.here hx rfl (hb hby own_d24_6) rfl rfl q)) ?_
  show G T309 (mkF m 7 #[rv b, iv pt] [(.ref b)])
  exact Own.Sit.retO hR S309 hx hret rfl (Or.inr (Or.inr (Or.inr (Or.inr ⟨rfl, rfl, rfl⟩)))) (hb hby own_d24_7) (by decide) (by decide) ⟨J309.1, rfl, E_b310, Fv_b310, Fc_b310, Fn_b310, A_r310⟩
theorem own_ef_own_ssz4 (m : MethodId) (pt : Int32) : entryFrame m #[(.int pt)] 4 = mkF m 0 #[iv pt, .unset, .unset, .unset] [] := by first | (simp [entryFrame, mkF, argsToLocals, Value.category]; done) | rfl
set_option maxRecDepth 65536 in
set_option maxHeartbeats 40000000 in
theorem own_ssz4 (l : Launch) (Z : State) (a0 : Array Value) (H : own_Wld Z a0) {cw : List Jvm.Cond} (pt : Int32) (h0 : Heap) (O0 : Ext Z.heap h0) (hp : 1000 ≤ pt.toInt ∧ pt.toInt ≤ 9999) :
    Own.Con l Z consts_1 (⟨"java/lang/Integer", "stringSize", "(I)I"⟩ : MethodName) jdk_33_method_13_code 4 (some .int) cw ({ frames := 0, cells := 0, slots := 0, locals := 0 } : Room) #[(.int pt)] h0 (fun v h => Keep h0 h [] ∧ v = some (.int 4)) := by
  have hw := H.1
  have hW := fun (i : Nat) (w : Jvm.Cond) (e : tables_1[i]? = some w) => hw w (List.mem_of_getElem? e)
  have hCm := H.2.1
  have hSi := H.2.2.1
  have hEL := H.2.2.2
  have hWs : ∀ d ∈ StrChars.Road.words, d.before a0 Z = true := fun d hd => hw d (own_wbackV d hd)
  have hWl : ∀ d ∈ StrChars.Road.wordsLen, d.before a0 Z = true := fun d hd => hw d (own_wlenW d hd)
  have hSA : ∀ d ∈ Bundle.stringAtoms, d.before a0 Z = true := fun d hd => hw d (own_wSA d hd)
  refine Own.Con.of own_pn39fe1f hEL O0 ?_
  intro p e s m below meth c T0 G vm0 hx hby hml hret hnm hG hR S0
  have hz : ∀ L : Array Slot, L.size = 4 → L.size = c.maxLocals := fun L q => q.trans hml.symm
  rw [own_ef_own_ssz4]
  show G T0 (mkF m 0 #[iv pt, .unset, .unset, .unset] [])
  refine hG.st (fun _ q => XS.iconst S0.here hx rfl (hb hby own_d21_0) (XS.istoreN S0.here hx rfl (hb hby own_d21_1) rfl (l' := #[iv pt, iv 1, .unset, .unset]) rfl (XS.iloadN S0.here hx rfl (hb hby own_d21_2) rfl (XS.ifNo S0.here hx rfl (hb hby own_d21_3) rfl ((if0 _ _).trans (flt ((by rw [Int32.lt_iff_toInt_lt, show (0 : Int32).toInt = 0 from by decide]; omega) : ¬ (pt < (0 : Int32)))).1) (XS.iconst S0.here hx rfl (hb hby own_d21_6) (XS.istoreN S0.here hx rfl (hb hby own_d21_7) rfl (l' := #[iv pt, iv 0, .unset, .unset]) rfl q)))))) ?_
  show G T0 (mkF m 8 #[iv pt, iv 0, .unset, .unset] [])
  refine hG.st (fun _ q => XS.iloadN S0.here hx rfl (hb hby own_d21_8) rfl (XS.ineg S0.here hx rfl (hb hby own_d21_9) rfl (XS.istoreN S0.here hx rfl (hb hby own_d21_10) rfl (l' := #[iv (-pt), iv 0, .unset, .unset]) rfl (XS.bipush S0.here hx rfl (hb hby own_d21_11) (XS.istoreN S0.here hx rfl (hb hby own_d21_13) rfl (l' := #[iv (-pt), iv 0, iv (-10 : Int32), .unset]) rfl (XS.iconst S0.here hx rfl (hb hby own_d21_14) q)))))) ?_
  show G T0 (mkF m 15 #[iv (-pt), iv 0, iv (-10 : Int32), .unset] [(.int 1)])
  refine hG.st (fun _ q => XS.istoreN S0.here hx rfl (hb hby own_d21_15) rfl (l' := #[iv (-pt), iv 0, iv (-10 : Int32), iv 1]) rfl (XS.iloadN S0.here hx rfl (hb hby own_d21_16) rfl (XS.bipush S0.here hx rfl (hb hby own_d21_17) (XS.icmpNo S0.here hx rfl (hb hby own_d21_19) rfl (tlt (by decide : (1 : Int32) < (10 : Int32))).2.1 (XS.iloadN S0.here hx rfl (hb hby own_d21_22) rfl (XS.iloadN S0.here hx rfl (hb hby own_d21_23) rfl q)))))) ?_
  show G T0 (mkF m 24 #[iv (-pt), iv 0, iv (-10 : Int32), iv 1] [(.int (-10 : Int32)), (.int (-pt))])
  refine hG.st (fun _ q => XS.icmpYes S0.here hx rfl (pc0 := 24) (pc' := 31) rfl (hb hby own_d21_24) rfl (flt ((by rw [Int32.lt_iff_toInt_lt, own_neg (x := pt) ⟨by omega, by omega⟩, show (-10 : Int32).toInt = -10 from by decide]; omega) : ¬ ((-10 : Int32) < (-pt)))).2.2.2 (by decide) (by decide) (XS.bipush S0.here hx rfl (hb hby own_d21_31) (XS.iloadN S0.here hx rfl (hb hby own_d21_33) rfl (XS.imul S0.here hx rfl (hb hby own_d21_34) rfl (XS.istoreN S0.here hx rfl (hb hby own_d21_35) rfl (l' := #[iv (-pt), iv 0, iv (-100 : Int32), iv 1]) rfl (XS.iinc S0.here hx rfl (hb hby own_d21_36) rfl (l' := #[iv (-pt), iv 0, iv (-100 : Int32), iv 2]) rfl q)))))) ?_
  show G T0 (mkF m 39 #[iv (-pt), iv 0, iv (-100 : Int32), iv 2] [])
  refine hG.st (fun _ q => XS.goto S0.here hx rfl (pc0 := 39) (pc' := 16) rfl (hb hby own_d21_39) (by decide) (by decide) (XS.iloadN S0.here hx rfl (hb hby own_d21_16) rfl (XS.bipush S0.here hx rfl (hb hby own_d21_17) (XS.icmpNo S0.here hx rfl (hb hby own_d21_19) rfl (tlt (by decide : (2 : Int32) < (10 : Int32))).2.1 (XS.iloadN S0.here hx rfl (hb hby own_d21_22) rfl (XS.iloadN S0.here hx rfl (hb hby own_d21_23) rfl q)))))) ?_
  show G T0 (mkF m 24 #[iv (-pt), iv 0, iv (-100 : Int32), iv 2] [(.int (-100 : Int32)), (.int (-pt))])
  refine hG.st (fun _ q => XS.icmpYes S0.here hx rfl (pc0 := 24) (pc' := 31) rfl (hb hby own_d21_24) rfl (flt ((by rw [Int32.lt_iff_toInt_lt, own_neg (x := pt) ⟨by omega, by omega⟩, show (-100 : Int32).toInt = -100 from by decide]; omega) : ¬ ((-100 : Int32) < (-pt)))).2.2.2 (by decide) (by decide) (XS.bipush S0.here hx rfl (hb hby own_d21_31) (XS.iloadN S0.here hx rfl (hb hby own_d21_33) rfl (XS.imul S0.here hx rfl (hb hby own_d21_34) rfl (XS.istoreN S0.here hx rfl (hb hby own_d21_35) rfl (l' := #[iv (-pt), iv 0, iv (-1000 : Int32), iv 2]) rfl (XS.iinc S0.here hx rfl (hb hby own_d21_36) rfl (l' := #[iv (-pt), iv 0, iv (-1000 : Int32), iv 3]) rfl q)))))) ?_
  show G T0 (mkF m 39 #[iv (-pt), iv 0, iv (-1000 : Int32), iv 3] [])
  refine hG.st (fun _ q => XS.goto S0.here hx rfl (pc0 := 39) (pc' := 16) rfl (hb hby own_d21_39) (by decide) (by decide) (XS.iloadN S0.here hx rfl (hb hby own_d21_16) rfl (XS.bipush S0.here hx rfl (hb hby own_d21_17) (XS.icmpNo S0.here hx rfl (hb hby own_d21_19) rfl (tlt (by decide : (3 : Int32) < (10 : Int32))).2.1 (XS.iloadN S0.here hx rfl (hb hby own_d21_22) rfl (XS.iloadN S0.here hx rfl (hb hby own_d21_23) rfl q)))))) ?_
  show G T0 (mkF m 24 #[iv (-pt), iv 0, iv (-1000 : Int32), iv 3] [(.int (-1000 : Int32)), (.int (-pt))])
  refine hG.st (fun _ q => XS.icmpYes S0.here hx rfl (pc0 := 24) (pc' := 31) rfl (hb hby own_d21_24) rfl (flt ((by rw [Int32.lt_iff_toInt_lt, own_neg (x := pt) ⟨by omega, by omega⟩, show (-1000 : Int32).toInt = -1000 from by decide]; omega) : ¬ ((-1000 : Int32) < (-pt)))).2.2.2 (by decide) (by decide) (XS.bipush S0.here hx rfl (hb hby own_d21_31) (XS.iloadN S0.here hx rfl (hb hby own_d21_33) rfl (XS.imul S0.here hx rfl (hb hby own_d21_34) rfl (XS.istoreN S0.here hx rfl (hb hby own_d21_35) rfl (l' := #[iv (-pt), iv 0, iv (-10000 : Int32), iv 3]) rfl (XS.iinc S0.here hx rfl (hb hby own_d21_36) rfl (l' := #[iv (-pt), iv 0, iv (-10000 : Int32), iv 4]) rfl q)))))) ?_
  show G T0 (mkF m 39 #[iv (-pt), iv 0, iv (-10000 : Int32), iv 4] [])
  refine hG.st (fun _ q => XS.goto S0.here hx rfl (pc0 := 39) (pc' := 16) rfl (hb hby own_d21_39) (by decide) (by decide) (XS.iloadN S0.here hx rfl (hb hby own_d21_16) rfl (XS.bipush S0.here hx rfl (hb hby own_d21_17) (XS.icmpNo S0.here hx rfl (hb hby own_d21_19) rfl (tlt (by decide : (4 : Int32) < (10 : Int32))).2.1 (XS.iloadN S0.here hx rfl (hb hby own_d21_22) rfl (XS.iloadN S0.here hx rfl (hb hby own_d21_23) rfl q)))))) ?_
  show G T0 (mkF m 24 #[iv (-pt), iv 0, iv (-10000 : Int32), iv 4] [(.int (-10000 : Int32)), (.int (-pt))])
  refine hG.st (fun _ q => XS.icmpNo S0.here hx rfl (hb hby own_d21_24) rfl (tlt ((by rw [Int32.lt_iff_toInt_lt, own_neg (x := pt) ⟨by omega, by omega⟩, show (-10000 : Int32).toInt = -10000 from by decide]; omega) : (-10000 : Int32) < (-pt))).2.2.2 (XS.iloadN S0.here hx rfl (hb hby own_d21_27) rfl (XS.iloadN S0.here hx rfl (hb hby own_d21_28) rfl (XS.iadd S0.here hx rfl (hb hby own_d21_29) rfl q)))) ?_
  show G T0 (mkF m 30 #[iv (-pt), iv 0, iv (-10000 : Int32), iv 4] [(.int 4)])
  exact Own.Sit.retO hR S0 hx hret rfl (Or.inl ⟨rfl, Or.inl rfl, _, rfl⟩) (hb hby own_d21_30) (by decide) (by decide) ⟨(Keep.refl _ _), rfl⟩
theorem own_ef_own_gch4 (m : MethodId) (cs : List Int32) (pt : Int32) (ar : Addr) : entryFrame m #[(.int pt), (.int (Int32.ofNat (cs.length + 4))), (.ref ar)] 7 = mkF m 0 #[iv pt, iv (Int32.ofNat (cs.length + 4)), rv ar, .unset, .unset, .unset, .unset] [] := by first | (simp [entryFrame, mkF, argsToLocals, Value.category]; done) | rfl
set_option maxRecDepth 65536 in
set_option maxHeartbeats 40000000 in
theorem own_gch4 (l : Launch) (Z : State) (a0 : Array Value) (H : own_Wld Z a0) {cw : List Jvm.Cond} (pt : Int32) (ar : Addr) (cs : List Int32) (d1 d2 : Addr) (h0 : Heap) (O0 : Ext Z.heap h0) {kv : ClassId} (A_r : Arv Z h0 ar kv .byte (16 : Int32) (own_buf cs) (.int 0)) (hsum : cs.length + 4 ≤ 16) (g_r : Z.heap.size ≤ ar) {k1 k2 : ClassId} (DG : own_Dig Z d1 d2 k1 k2) (hp : 1000 ≤ pt.toInt ∧ pt.toInt ≤ 9999) :
    Own.Con l Z consts_1 (⟨"java/lang/Integer", "getChars", "(II[B)I"⟩ : MethodName) jdk_33_method_12_code 7 (some .int) cw ({ frames := 0, cells := 0, slots := 0, locals := 0 } : Room) #[(.int pt), (.int (Int32.ofNat (cs.length + 4))), (.ref ar)] h0 (fun v h => Keep h0 h [ar] ∧ (∃ r, v = some (.int r)) ∧ Arv Z h ar kv .byte (16 : Int32) (own_buf (cs ++ own_dig4 pt)) (.int 0)) := by
  have hw := H.1
  have hW := fun (i : Nat) (w : Jvm.Cond) (e : tables_1[i]? = some w) => hw w (List.mem_of_getElem? e)
  have hCm := H.2.1
  have hSi := H.2.2.1
  have hEL := H.2.2.2
  have hWs : ∀ d ∈ StrChars.Road.words, d.before a0 Z = true := fun d hd => hw d (own_wbackV d hd)
  have hWl : ∀ d ∈ StrChars.Road.wordsLen, d.before a0 Z = true := fun d hd => hw d (own_wlenW d hd)
  have hSA : ∀ d ∈ Bundle.stringAtoms, d.before a0 Z = true := fun d hd => hw d (own_wSA d hd)
  refine Own.Con.of own_pna51775 hEL O0 ?_
  intro p e s m below meth c T0 G vm0 hx hby hml hret hnm hG hR S0
  have hz : ∀ L : Array Slot, L.size = 7 → L.size = c.maxLocals := fun L q => q.trans hml.symm
  rw [own_ef_own_gch4]
  show G T0 (mkF m 0 #[iv pt, iv (Int32.ofNat (cs.length + 4)), rv ar, .unset, .unset, .unset, .unset] [])
  obtain ⟨Sd1, Ad1, Sd2, Ad2⟩ := id DG
  refine hG.st (fun _ q => XS.iloadN S0.here hx rfl (hb hby own_d22_0) rfl (XS.istore S0.here hx rfl (hb hby own_d22_1) rfl (l' := #[iv pt, iv (Int32.ofNat (cs.length + 4)), rv ar, .unset, .unset, iv (Int32.ofNat (cs.length + 4)), .unset]) rfl (XS.iloadN S0.here hx rfl (hb hby own_d22_3) rfl (XS.ifYes S0.here hx rfl (pc0 := 4) (pc' := 11) rfl (hb hby own_d22_4) rfl ((if0 _ _).trans (flt ((by rw [Int32.lt_iff_toInt_lt, show (0 : Int32).toInt = 0 from by decide]; omega) : ¬ (pt < (0 : Int32)))).2.1) (by decide) (by decide) (XS.iconst S0.here hx rfl (hb hby own_d22_11) (XS.istore S0.here hx rfl (hb hby own_d22_12) rfl (l' := #[iv pt, iv (Int32.ofNat (cs.length + 4)), rv ar, .unset, .unset, iv (Int32.ofNat (cs.length + 4)), iv 0]) rfl q)))))) ?_
  show G T0 (mkF m 14 #[iv pt, iv (Int32.ofNat (cs.length + 4)), rv ar, .unset, .unset, iv (Int32.ofNat (cs.length + 4)), iv 0] [])
  refine hG.st (fun _ q => XS.iload S0.here hx rfl (hb hby own_d22_14) rfl (XS.ifNo S0.here hx rfl (hb hby own_d22_16) rfl ((if0 _ _).trans (teq (by decide : (0 : Int32) = (0 : Int32))).2) (XS.iloadN S0.here hx rfl (hb hby own_d22_19) rfl (XS.ineg S0.here hx rfl (hb hby own_d22_20) rfl (XS.istoreN S0.here hx rfl (hb hby own_d22_21) rfl (l' := #[iv (-pt), iv (Int32.ofNat (cs.length + 4)), rv ar, .unset, .unset, iv (Int32.ofNat (cs.length + 4)), iv 0]) rfl q))))) ?_
  show G T0 (mkF m 22 #[iv (-pt), iv (Int32.ofNat (cs.length + 4)), rv ar, .unset, .unset, iv (Int32.ofNat (cs.length + 4)), iv 0] [])
  obtain ⟨i0, ei0⟩ : ∃ z : Int32, z = (-pt) := ⟨_, rfl⟩
  rw [← ei0]
  show G T0 (mkF m 22 #[iv i0, iv (Int32.ofNat (cs.length + 4)), rv ar, .unset, .unset, iv (Int32.ofNat (cs.length + 4)), iv 0] [])
  have hi0 : i0.toInt = -(pt.toInt) := by rw [ei0, own_neg ⟨by omega, by omega⟩]
  refine hG.st (fun _ q => XS.iloadN S0.here hx rfl (hb hby own_d22_22) rfl (XS.bipush S0.here hx rfl (hb hby own_d22_23) (XS.icmpNo S0.here hx rfl (hb hby own_d22_25) rfl (flt ((by rw [Int32.lt_iff_toInt_lt, hi0, show (-100 : Int32).toInt = -100 from by decide]; omega) : ¬ ((-100 : Int32) < i0))).2.2.1 (XS.iloadN S0.here hx rfl (hb hby own_d22_28) rfl (XS.bipush S0.here hx rfl (hb hby own_d22_29) (XS.idiv S0.here hx rfl (hb hby own_d22_31) rfl (by decide) q)))))) ?_
  show G T0 (mkF m 32 #[iv i0, iv (Int32.ofNat (cs.length + 4)), rv ar, .unset, .unset, iv (Int32.ofNat (cs.length + 4)), iv 0] [(.int (i0 / (100 : Int32)))])
  refine hG.st (fun _ q => XS.istoreN S0.here hx rfl (hb hby own_d22_32) rfl (l' := #[iv i0, iv (Int32.ofNat (cs.length + 4)), rv ar, iv (i0 / (100 : Int32)), .unset, iv (Int32.ofNat (cs.length + 4)), iv 0]) rfl q) ?_
  show G T0 (mkF m 33 #[iv i0, iv (Int32.ofNat (cs.length + 4)), rv ar, iv (i0 / (100 : Int32)), .unset, iv (Int32.ofNat (cs.length + 4)), iv 0] [])
  obtain ⟨i1, ei1⟩ : ∃ z : Int32, z = (i0 / (100 : Int32)) := ⟨_, rfl⟩
  rw [← ei1]
  show G T0 (mkF m 33 #[iv i0, iv (Int32.ofNat (cs.length + 4)), rv ar, iv i1, .unset, iv (Int32.ofNat (cs.length + 4)), iv 0] [])
  refine hG.st (fun _ q => XS.iloadN S0.here hx rfl (hb hby own_d22_33) rfl (XS.bipush S0.here hx rfl (hb hby own_d22_34) (XS.imul S0.here hx rfl (hb hby own_d22_36) rfl (XS.iloadN S0.here hx rfl (hb hby own_d22_37) rfl (XS.isub S0.here hx rfl (hb hby own_d22_38) rfl (XS.istore S0.here hx rfl (hb hby own_d22_39) rfl (l' := #[iv i0, iv (Int32.ofNat (cs.length + 4)), rv ar, iv i1, iv ((i1 * (100 : Int32)) - i0), iv (Int32.ofNat (cs.length + 4)), iv 0]) rfl q)))))) ?_
  show G T0 (mkF m 41 #[iv i0, iv (Int32.ofNat (cs.length + 4)), rv ar, iv i1, iv ((i1 * (100 : Int32)) - i0), iv (Int32.ofNat (cs.length + 4)), iv 0] [])
  obtain ⟨r1, er1⟩ : ∃ z : Int32, z = ((i1 * (100 : Int32)) - i0) := ⟨_, rfl⟩
  rw [← er1]
  show G T0 (mkF m 41 #[iv i0, iv (Int32.ofNat (cs.length + 4)), rv ar, iv i1, iv r1, iv (Int32.ofNat (cs.length + 4)), iv 0] [])
  have g1 := own_g1 hi0 ⟨by omega, by omega⟩
  have hi1 : i1.toInt = -(pt.toInt / 100) := by rw [ei1]; exact g1.1
  have hr1 : r1.toInt = pt.toInt % 100 := by rw [er1, ei1]; exact g1.2
  refine hG.st (fun _ q => XS.iloadN S0.here hx rfl (hb hby own_d22_41) rfl (XS.istoreN S0.here hx rfl (hb hby own_d22_42) rfl (l' := #[iv i1, iv (Int32.ofNat (cs.length + 4)), rv ar, iv i1, iv r1, iv (Int32.ofNat (cs.length + 4)), iv 0]) rfl (XS.aloadN S0.here hx rfl (hb hby own_d22_43) rfl rfl (XS.iinc S0.here hx rfl (hb hby own_d22_44) rfl (l' := #[iv i1, iv (Int32.ofNat (cs.length + 4)), rv ar, iv i1, iv r1, iv ((Int32.ofNat (cs.length + 4)) + (-1 : Int32)), iv 0]) rfl q)))) ?_
  show G T0 (mkF m 47 #[iv i1, iv (Int32.ofNat (cs.length + 4)), rv ar, iv i1, iv r1, iv ((Int32.ofNat (cs.length + 4)) + (-1 : Int32)), iv 0] [(.ref ar)])
  rw [show (Int32.ofNat (cs.length + 4)) + (-1 : Int32) = Int32.ofNat (cs.length + 3) from own_dec (cs.length + 3)]
  show G T0 (mkF m 47 #[iv i1, iv (Int32.ofNat (cs.length + 4)), rv ar, iv i1, iv r1, iv (Int32.ofNat (cs.length + 3)), iv 0] [(.ref ar)])
  refine hG.st (fun _ q => XS.iload S0.here hx rfl (hb hby own_d22_47) rfl q) ?_
  show G T0 (mkF m 49 #[iv i1, iv (Int32.ofNat (cs.length + 4)), rv ar, iv i1, iv r1, iv (Int32.ofNat (cs.length + 3)), iv 0] [(.int (Int32.ofNat (cs.length + 3))), (.ref ar)])
  refine Own.Sit.getS hG S0 hx (host := "") (Or.inl (hW 159 _ rfl)) Via.refl (Sd1.ext S0.old) rfl (hb hby own_d22_49) (fun T311 S311 => ?_)
  refine hG.st (fun _ q => XS.iload S311.here hx rfl (hb hby own_d22_52) rfl q) ?_
  show G T311 (mkF m 54 #[iv i1, iv (Int32.ofNat (cs.length + 4)), rv ar, iv i1, iv r1, iv (Int32.ofNat (cs.length + 3)), iv 0] [(.int r1), (.ref d1), (.int (Int32.ofNat (cs.length + 3))), (.ref ar)])
  have V312 := Ad1.ext S311.old
  have hj313 : ¬ r1 < 0 ∧ r1 < 100 := ⟨by rw [Int32.lt_iff_toInt_lt, hr1, show (0 : Int32).toInt = 0 from rfl]; omega, by rw [Int32.lt_iff_toInt_lt, hr1, show (100 : Int32).toInt = 100 from rfl]; omega⟩
  refine Own.Sit.baload hG S311 hx V312 hj313 (own_ones_at hj313) rfl rfl (hb hby own_d22_54) ?_
  show G T311 (mkF m 55 #[iv i1, iv (Int32.ofNat (cs.length + 4)), rv ar, iv i1, iv r1, iv (Int32.ofNat (cs.length + 3)), iv 0] [(.int ((48 : Int32) + (r1 % (10 : Int32)))), (.int (Int32.ofNat (cs.length + 3))), (.ref ar)])
  refine Own.Sit.stB hG S311 hx A_r g_r (Own.Safe.size S311.warm A_r (hW 6 _ rfl) (own_sz16 hw)) (own_idx (by omega)) (cs.length + 3) (own_tn (by omega)) (by (try simp only [List.length_set]); rw [own_bufl (by omega)]; omega) rfl rfl (hb hby own_d22_55) (fun T314 h314 S314 J314 V314 => ?_)
  refine hG.st (fun _ q => XS.aloadN S314.here hx rfl (hb hby own_d22_56) rfl rfl (XS.iinc S314.here hx rfl (hb hby own_d22_57) rfl (l' := #[iv i1, iv (Int32.ofNat (cs.length + 4)), rv ar, iv i1, iv r1, iv ((Int32.ofNat (cs.length + 3)) + (-1 : Int32)), iv 0]) rfl q)) ?_
  show G T314 (mkF m 60 #[iv i1, iv (Int32.ofNat (cs.length + 4)), rv ar, iv i1, iv r1, iv ((Int32.ofNat (cs.length + 3)) + (-1 : Int32)), iv 0] [(.ref ar)])
  rw [show (Int32.ofNat (cs.length + 3)) + (-1 : Int32) = Int32.ofNat (cs.length + 2) from own_dec (cs.length + 2)]
  show G T314 (mkF m 60 #[iv i1, iv (Int32.ofNat (cs.length + 4)), rv ar, iv i1, iv r1, iv (Int32.ofNat (cs.length + 2)), iv 0] [(.ref ar)])
  refine hG.st (fun _ q => XS.iload S314.here hx rfl (hb hby own_d22_60) rfl q) ?_
  show G T314 (mkF m 62 #[iv i1, iv (Int32.ofNat (cs.length + 4)), rv ar, iv i1, iv r1, iv (Int32.ofNat (cs.length + 2)), iv 0] [(.int (Int32.ofNat (cs.length + 2))), (.ref ar)])
  refine Own.Sit.getS hG S314 hx (host := "") (Or.inl (hW 221 _ rfl)) Via.refl (Sd2.ext S314.old) rfl (hb hby own_d22_62) (fun T315 S315 => ?_)
  refine hG.st (fun _ q => XS.iload S315.here hx rfl (hb hby own_d22_65) rfl q) ?_
  show G T315 (mkF m 67 #[iv i1, iv (Int32.ofNat (cs.length + 4)), rv ar, iv i1, iv r1, iv (Int32.ofNat (cs.length + 2)), iv 0] [(.int r1), (.ref d2), (.int (Int32.ofNat (cs.length + 2))), (.ref ar)])
  have V316 := Ad2.ext S315.old
  have hj317 : ¬ r1 < 0 ∧ r1 < 100 := ⟨by rw [Int32.lt_iff_toInt_lt, hr1, show (0 : Int32).toInt = 0 from rfl]; omega, by rw [Int32.lt_iff_toInt_lt, hr1, show (100 : Int32).toInt = 100 from rfl]; omega⟩
  refine Own.Sit.baload hG S315 hx V316 hj317 (own_tens_at hj317) rfl rfl (hb hby own_d22_67) ?_
  show G T315 (mkF m 68 #[iv i1, iv (Int32.ofNat (cs.length + 4)), rv ar, iv i1, iv r1, iv (Int32.ofNat (cs.length + 2)), iv 0] [(.int ((48 : Int32) + (r1 / (10 : Int32)))), (.int (Int32.ofNat (cs.length + 2))), (.ref ar)])
  refine Own.Sit.stB hG S315 hx V314 g_r (Own.Safe.size S315.warm V314 (hW 6 _ rfl) (own_sz16 hw)) (own_idx (by omega)) (cs.length + 2) (own_tn (by omega)) (by (try simp only [List.length_set]); rw [own_bufl (by omega)]; omega) rfl rfl (hb hby own_d22_68) (fun T318 h318 S318 J318 V318 => ?_)
  refine hG.st (fun _ q => XS.goto S318.here hx rfl (pc0 := 69) (pc' := 22) rfl (hb hby own_d22_69) (by decide) (by decide) (XS.iloadN S318.here hx rfl (hb hby own_d22_22) rfl (XS.bipush S318.here hx rfl (hb hby own_d22_23) (XS.icmpYes S318.here hx rfl (pc0 := 25) (pc' := 72) rfl (hb hby own_d22_25) rfl (tlt ((by rw [Int32.lt_iff_toInt_lt, hi1, show (-100 : Int32).toInt = -100 from by decide]; omega) : (-100 : Int32) < i1)).2.2.1 (by decide) (by decide) (XS.aloadN S318.here hx rfl (hb hby own_d22_72) rfl rfl (XS.iinc S318.here hx rfl (hb hby own_d22_73) rfl (l' := #[iv i1, iv (Int32.ofNat (cs.length + 4)), rv ar, iv i1, iv r1, iv ((Int32.ofNat (cs.length + 2)) + (-1 : Int32)), iv 0]) rfl q)))))) ?_
  show G T318 (mkF m 76 #[iv i1, iv (Int32.ofNat (cs.length + 4)), rv ar, iv i1, iv r1, iv ((Int32.ofNat (cs.length + 2)) + (-1 : Int32)), iv 0] [(.ref ar)])
  rw [show (Int32.ofNat (cs.length + 2)) + (-1 : Int32) = Int32.ofNat (cs.length + 1) from own_dec (cs.length + 1)]
  show G T318 (mkF m 76 #[iv i1, iv (Int32.ofNat (cs.length + 4)), rv ar, iv i1, iv r1, iv (Int32.ofNat (cs.length + 1)), iv 0] [(.ref ar)])
  refine hG.st (fun _ q => XS.iload S318.here hx rfl (hb hby own_d22_76) rfl q) ?_
  show G T318 (mkF m 78 #[iv i1, iv (Int32.ofNat (cs.length + 4)), rv ar, iv i1, iv r1, iv (Int32.ofNat (cs.length + 1)), iv 0] [(.int (Int32.ofNat (cs.length + 1))), (.ref ar)])
  refine Own.Sit.getS hG S318 hx (host := "") (Or.inl (hW 159 _ rfl)) Via.refl (Sd1.ext S318.old) rfl (hb hby own_d22_78) (fun T319 S319 => ?_)
  refine hG.st (fun _ q => XS.iloadN S319.here hx rfl (hb hby own_d22_81) rfl (XS.ineg S319.here hx rfl (hb hby own_d22_82) rfl q)) ?_
  show G T319 (mkF m 83 #[iv i1, iv (Int32.ofNat (cs.length + 4)), rv ar, iv i1, iv r1, iv (Int32.ofNat (cs.length + 1)), iv 0] [(.int (-i1)), (.ref d1), (.int (Int32.ofNat (cs.length + 1))), (.ref ar)])
  have V320 := Ad1.ext S319.old
  have hj321 : ¬ (-i1) < 0 ∧ (-i1) < 100 := ⟨by rw [Int32.lt_iff_toInt_lt, own_neg ⟨by omega, by omega⟩, show (0 : Int32).toInt = 0 from rfl]; omega, by rw [Int32.lt_iff_toInt_lt, own_neg ⟨by omega, by omega⟩, show (100 : Int32).toInt = 100 from rfl]; omega⟩
  refine Own.Sit.baload hG S319 hx V320 hj321 (own_ones_at hj321) rfl rfl (hb hby own_d22_83) ?_
  show G T319 (mkF m 84 #[iv i1, iv (Int32.ofNat (cs.length + 4)), rv ar, iv i1, iv r1, iv (Int32.ofNat (cs.length + 1)), iv 0] [(.int ((48 : Int32) + ((-i1) % (10 : Int32)))), (.int (Int32.ofNat (cs.length + 1))), (.ref ar)])
  refine Own.Sit.stB hG S319 hx V318 g_r (Own.Safe.size S319.warm V318 (hW 6 _ rfl) (own_sz16 hw)) (own_idx (by omega)) (cs.length + 1) (own_tn (by omega)) (by (try simp only [List.length_set]); rw [own_bufl (by omega)]; omega) rfl rfl (hb hby own_d22_84) (fun T322 h322 S322 J322 V322 => ?_)
  refine hG.st (fun _ q => XS.iloadN S322.here hx rfl (hb hby own_d22_85) rfl (XS.bipush S322.here hx rfl (hb hby own_d22_86) (XS.icmpNo S322.here hx rfl (hb hby own_d22_88) rfl (tlt ((by rw [Int32.lt_iff_toInt_lt, hi1, show (-9 : Int32).toInt = -9 from by decide]; omega) : i1 < (-9 : Int32))).2.1 (XS.aloadN S322.here hx rfl (hb hby own_d22_91) rfl rfl (XS.iinc S322.here hx rfl (hb hby own_d22_92) rfl (l' := #[iv i1, iv (Int32.ofNat (cs.length + 4)), rv ar, iv i1, iv r1, iv ((Int32.ofNat (cs.length + 1)) + (-1 : Int32)), iv 0]) rfl q))))) ?_
  show G T322 (mkF m 95 #[iv i1, iv (Int32.ofNat (cs.length + 4)), rv ar, iv i1, iv r1, iv ((Int32.ofNat (cs.length + 1)) + (-1 : Int32)), iv 0] [(.ref ar)])
  rw [show (Int32.ofNat (cs.length + 1)) + (-1 : Int32) = Int32.ofNat (cs.length + 0) from own_dec (cs.length + 0)]
  show G T322 (mkF m 95 #[iv i1, iv (Int32.ofNat (cs.length + 4)), rv ar, iv i1, iv r1, iv (Int32.ofNat (cs.length + 0)), iv 0] [(.ref ar)])
  refine hG.st (fun _ q => XS.iload S322.here hx rfl (hb hby own_d22_95) rfl q) ?_
  show G T322 (mkF m 97 #[iv i1, iv (Int32.ofNat (cs.length + 4)), rv ar, iv i1, iv r1, iv (Int32.ofNat (cs.length + 0)), iv 0] [(.int (Int32.ofNat (cs.length + 0))), (.ref ar)])
  refine Own.Sit.getS hG S322 hx (host := "") (Or.inl (hW 221 _ rfl)) Via.refl (Sd2.ext S322.old) rfl (hb hby own_d22_97) (fun T323 S323 => ?_)
  refine hG.st (fun _ q => XS.iloadN S323.here hx rfl (hb hby own_d22_100) rfl (XS.ineg S323.here hx rfl (hb hby own_d22_101) rfl q)) ?_
  show G T323 (mkF m 102 #[iv i1, iv (Int32.ofNat (cs.length + 4)), rv ar, iv i1, iv r1, iv (Int32.ofNat (cs.length + 0)), iv 0] [(.int (-i1)), (.ref d2), (.int (Int32.ofNat (cs.length + 0))), (.ref ar)])
  have V324 := Ad2.ext S323.old
  have hj325 : ¬ (-i1) < 0 ∧ (-i1) < 100 := ⟨by rw [Int32.lt_iff_toInt_lt, own_neg ⟨by omega, by omega⟩, show (0 : Int32).toInt = 0 from rfl]; omega, by rw [Int32.lt_iff_toInt_lt, own_neg ⟨by omega, by omega⟩, show (100 : Int32).toInt = 100 from rfl]; omega⟩
  refine Own.Sit.baload hG S323 hx V324 hj325 (own_tens_at hj325) rfl rfl (hb hby own_d22_102) ?_
  show G T323 (mkF m 103 #[iv i1, iv (Int32.ofNat (cs.length + 4)), rv ar, iv i1, iv r1, iv (Int32.ofNat (cs.length + 0)), iv 0] [(.int ((48 : Int32) + ((-i1) / (10 : Int32)))), (.int (Int32.ofNat (cs.length + 0))), (.ref ar)])
  refine Own.Sit.stB hG S323 hx V322 g_r (Own.Safe.size S323.warm V322 (hW 6 _ rfl) (own_sz16 hw)) (own_idx (by omega)) (cs.length + 0) (own_tn (by omega)) (by (try simp only [List.length_set]); rw [own_bufl (by omega)]; omega) rfl rfl (hb hby own_d22_103) (fun T326 h326 S326 J326 V326 => ?_)
  refine hG.st (fun _ q => XS.iload S326.here hx rfl (hb hby own_d22_104) rfl (XS.ifYes S326.here hx rfl (pc0 := 106) (pc' := 118) rfl (hb hby own_d22_106) rfl ((if0 _ _).trans (teq (by decide : (0 : Int32) = (0 : Int32))).1) (by decide) (by decide) (XS.iload S326.here hx rfl (hb hby own_d22_118) rfl q))) ?_
  show G T326 (mkF m 120 #[iv i1, iv (Int32.ofNat (cs.length + 4)), rv ar, iv i1, iv r1, iv (Int32.ofNat (cs.length + 0)), iv 0] [(.int (Int32.ofNat (cs.length + 0)))])
  have pp := own_p (p := pt) (by omega)
  have xx327 : (-i1).toInt = -(-((pt.toInt / 100))) := by rw [own_neg (x := i1) ⟨by omega, by omega⟩, hi1]
  have ee327 : ((48 : Int32) + ((-i1) / (10 : Int32))) = (48 : Int32) + (pt / 1000 % 10) := congrArg (fun z => (48 : Int32) + z) (Int32.toInt_inj.mp (by rw [(own_t10 (x := (-i1)) (by omega)).2, pp.2.2.2.1]; omega))
  have xx328 : (-i1).toInt = -(-((pt.toInt / 100))) := by rw [own_neg (x := i1) ⟨by omega, by omega⟩, hi1]
  have ee328 : ((48 : Int32) + ((-i1) % (10 : Int32))) = (48 : Int32) + (pt / 100 % 10) := congrArg (fun z => (48 : Int32) + z) (Int32.toInt_inj.mp (by rw [(own_t10 (x := (-i1)) (by omega)).1, pp.2.2.1]; omega))
  have xx329 : r1.toInt = pt.toInt % 100 := by rw [hr1]
  have ee329 : ((48 : Int32) + (r1 / (10 : Int32))) = (48 : Int32) + (pt / 10 % 10) := congrArg (fun z => (48 : Int32) + z) (Int32.toInt_inj.mp (by rw [(own_t10 (x := r1) (by omega)).2, pp.2.1]; omega))
  have xx330 : r1.toInt = pt.toInt % 100 := by rw [hr1]
  have ee330 : ((48 : Int32) + (r1 % (10 : Int32))) = (48 : Int32) + (pt % 10) := congrArg (fun z => (48 : Int32) + z) (Int32.toInt_inj.mp (by rw [(own_t10 (x := r1) (by omega)).1, pp.1]; omega))
  have Af : Arv Z h326 ar kv .byte (16 : Int32) (own_buf (cs ++ own_dig4 pt)) (.int 0) := by
    have q := V326
    rw [own_lst4 _ _ _ _ hsum, ee327, ee328, ee329, ee330] at q
    exact q
  have J331 : Own.Stp Z consts_1 vm0 h0 vm0 h318 [ar] := Own.Stp.trans J314 J318 (allS (List.mem_of_getElem? (i := 0) rfl) (all0)) (allS (Or.inl (List.mem_of_getElem? (i := 0) rfl)) all0)
  have J332 : Own.Stp Z consts_1 vm0 h0 vm0 h322 [ar] := Own.Stp.trans J331 J322 (allS (List.mem_of_getElem? (i := 0) rfl) (all0)) (allS (Or.inl (List.mem_of_getElem? (i := 0) rfl)) all0)
  have J333 : Own.Stp Z consts_1 vm0 h0 vm0 h326 [ar] := Own.Stp.trans J332 J326 (allS (List.mem_of_getElem? (i := 0) rfl) (all0)) (allS (Or.inl (List.mem_of_getElem? (i := 0) rfl)) all0)
  exact Own.Sit.retO hR S326 hx hret rfl (Or.inl ⟨rfl, Or.inl rfl, _, rfl⟩) (hb hby own_d22_120) (by decide) (by decide) ⟨J333.1, ⟨_, rfl⟩, Af⟩
theorem own_ef_own_api4 (m : MethodId) (b : Addr) (pt : Int32) : entryFrame m #[(.ref b), (.int pt)] 4 = mkF m 0 #[rv b, iv pt, .unset, .unset] [] := by first | (simp [entryFrame, mkF, argsToLocals, Value.category]; done) | rfl
set_option maxRecDepth 65536 in
set_option maxHeartbeats 40000000 in
theorem own_api4 (l : Launch) (Z : State) (a0 : Array Value) (H : own_Wld Z a0) {cw : List Jvm.Cond} (b : Addr) (pt : Int32) (ar : Addr) (cs : List Int32) (d1 d2 : Addr) (h0 : Heap) (O0 : Ext Z.heap h0) {kv : ClassId} (SB : own_SB Z h0 b ar kv cs) (hsum : cs.length + 4 ≤ 16) (g_b : Z.heap.size ≤ b) (g_r : Z.heap.size ≤ ar) {k1 k2 : ClassId} (DG : own_Dig Z d1 d2 k1 k2) (hp : 1000 ≤ pt.toInt ∧ pt.toInt ≤ 9999) :
    Own.Con l Z consts_1 (⟨"java/lang/AbstractStringBuilder", "append", "(I)Ljava/lang/AbstractStringBuilder;"⟩ : MethodName) jdk_68_method_32_code 4 (some (.object "java/lang/AbstractStringBuilder")) cw ({ frames := 1, cells := 0, slots := 0, locals := 18 } : Room) #[(.ref b), (.int pt)] h0 (fun v h => Keep h0 h [b, ar] ∧ v = some (.ref b) ∧ own_SB Z h b ar kv (cs ++ own_dig4 pt)) := by
  have hw := H.1
  have hW := fun (i : Nat) (w : Jvm.Cond) (e : tables_1[i]? = some w) => hw w (List.mem_of_getElem? e)
  have hCm := H.2.1
  have hSi := H.2.2.1
  have hEL := H.2.2.2
  have hWs : ∀ d ∈ StrChars.Road.words, d.before a0 Z = true := fun d hd => hw d (own_wbackV d hd)
  have hWl : ∀ d ∈ StrChars.Road.wordsLen, d.before a0 Z = true := fun d hd => hw d (own_wlenW d hd)
  have hSA : ∀ d ∈ Bundle.stringAtoms, d.before a0 Z = true := fun d hd => hw d (own_wSA d hd)
  refine Own.Con.of own_pn4294e0 hEL O0 ?_
  intro p e s m below meth c T0 G vm0 hx hby hml hret hnm hG hR S0
  have hz : ∀ L : Array Slot, L.size = 4 → L.size = c.maxLocals := fun L q => q.trans hml.symm
  rw [own_ef_own_api4]
  show G T0 (mkF m 0 #[rv b, iv pt, .unset, .unset] [])
  obtain ⟨E_b334, Fv_b334, Fc_b334, Fn_b334, A_r334⟩ := id SB
  refine hG.st (fun _ q => XS.aloadN S0.here hx rfl (hb hby own_d23_0) rfl rfl q) ?_
  show G T0 (mkF m 1 #[rv b, iv pt, .unset, .unset] [(.ref b)])
  refine Own.Sit.getF hG S0 hx (host := "") (Or.inl (hW 111 _ rfl)) Via.refl Fn_b334 rfl rfl (hb hby own_d23_1) (fun T335 S335 => ?_)
  refine hG.st (fun _ q => XS.istoreN S335.here hx rfl (hb hby own_d23_4) rfl (l' := #[rv b, iv pt, iv (Int32.ofNat cs.length), .unset]) rfl (XS.iloadN S335.here hx rfl (hb hby own_d23_5) rfl (XS.iloadN S335.here hx rfl (hb hby own_d23_6) rfl q))) ?_
  show G T335 (mkF m 7 #[rv b, iv pt, iv (Int32.ofNat cs.length), .unset] [(.int pt), (.int (Int32.ofNat cs.length))])
  refine Own.Sit.callS hG S335 hx hEL (as := [(.int pt)]) (hW 147 _ rfl) (hW 148 _ rfl) (hW 149 _ rfl) (hW 150 _ rfl) (by decide) (own_ssz4 l Z a0 H pt h0 S335.old hp) own_pd89c469 rfl rfl (hz _ rfl) (rest := [(.int (Int32.ofNat cs.length))]) rfl (W := 1) (Own.hw0 rfl rfl) (hb hby own_d23_7) (by decide) (by decide) (by decide) (by decide) (fun v336 vm336 T336 h336 S336 C336 q336 => ?_)
  obtain ⟨K336, rfl⟩ := q336
  have J336 : Own.Stp Z consts_1 vm0 h0 vm336 h336 [] := ⟨K336, C336⟩
  refine hG.st (fun _ q => XS.iadd S336.here hx rfl (hb hby own_d23_10) rfl q) ?_
  show G T336 (mkF m 11 #[rv b, iv pt, iv (Int32.ofNat cs.length), .unset] [(.int ((Int32.ofNat cs.length) + (4 : Int32)))])
  rw [show (Int32.ofNat cs.length) + (4 : Int32) = Int32.ofNat (cs.length + 4) from own_addn cs.length 4]
  show G T336 (mkF m 11 #[rv b, iv pt, iv (Int32.ofNat cs.length), .unset] [(.int (Int32.ofNat (cs.length + 4)))])
  refine hG.st (fun _ q => XS.istoreN S336.here hx rfl (hb hby own_d23_11) rfl (l' := #[rv b, iv pt, iv (Int32.ofNat cs.length), iv (Int32.ofNat (cs.length + 4))]) rfl (XS.aloadN S336.here hx rfl (hb hby own_d23_12) rfl rfl (XS.iloadN S336.here hx rfl (hb hby own_d23_13) rfl q))) ?_
  show G T336 (mkF m 14 #[rv b, iv pt, iv (Int32.ofNat cs.length), iv (Int32.ofNat (cs.length + 4))] [(.int (Int32.ofNat (cs.length + 4))), (.ref b)])
  have E337 := J336.exa E_b334
  have F338 := J336.fld Fv_b334 nin0
  have F339 := J336.fld Fc_b334 nin0
  have F340 := J336.fld Fn_b334 nin0
  have V341 := J336.arv A_r334 nin0
  have SB342 : own_SB Z h336 b ar kv cs := ⟨E337, F338, F339, F340, V341⟩
  refine Own.Sit.callPS hG S336 hx hEL (as := [(.int (Int32.ofNat (cs.length + 4)))]) (hW 113 _ rfl) (hW 115 _ rfl) (hW 116 _ rfl) (hW 114 _ rfl) (hW 88 _ rfl) (hW 117 _ rfl) (by decide) E337 (own_ens l Z a0 H b (Int32.ofNat (cs.length + 4)) ar cs h336 S336.old SB342 (own_ec hsum)) own_pdc76b35 rfl rfl (hz _ rfl) (rest := []) rfl (W := 0) (Own.hw0 rfl rfl) (hb hby own_d23_14) (by decide) (by decide) (by decide) (by decide) (fun v343 vm343 T343 h343 S343 C343 q343 => ?_)
  obtain ⟨K343, rfl⟩ := q343
  have J343 : Own.Stp Z consts_1 vm336 h336 vm343 h343 [] := ⟨K343, C343⟩
  refine hG.st (fun _ q => XS.aloadN S343.here hx rfl (hb hby own_d23_17) rfl rfl q) ?_
  show G T343 (mkF m 18 #[rv b, iv pt, iv (Int32.ofNat cs.length), iv (Int32.ofNat (cs.length + 4))] [(.ref b)])
  have E344 := J343.exa E337
  have F345 := J343.fld F338 nin0
  have F346 := J343.fld F339 nin0
  have F347 := J343.fld F340 nin0
  have V348 := J343.arv V341 nin0
  have SB349 : own_SB Z h343 b ar kv cs := ⟨E344, F345, F346, F347, V348⟩
  refine Own.Sit.callV hG S343 hx hEL (as := []) (hW 151 _ rfl) (hW 152 _ rfl) (hW 154 _ rfl) (hW 153 _ rfl) (hW 88 _ rfl) (hW 155 _ rfl) (by decide) E344 (own_alat l Z a0 H b ar cs h343 S343.old SB349) own_pdbfe1a5 rfl rfl (hz _ rfl) (rest := []) rfl (W := 0) (Own.hw0 rfl rfl) (hb hby own_d23_18) (by decide) (by decide) (by decide) (by decide) (fun v350 vm350 T350 h350 S350 C350 q350 => ?_)
  obtain ⟨K350, rfl⟩ := q350
  have J350 : Own.Stp Z consts_1 vm343 h343 vm350 h350 [] := ⟨K350, C350⟩
  refine hG.st (fun _ q => XS.ifNo S350.here hx rfl (hb hby own_d23_21) rfl ((if0 _ _).trans (feq (by decide : ¬ ((1 : Int32) = (0 : Int32)))).1) (XS.iloadN S350.here hx rfl (hb hby own_d23_24) rfl (XS.iloadN S350.here hx rfl (hb hby own_d23_25) rfl (XS.aloadN S350.here hx rfl (hb hby own_d23_26) rfl rfl q)))) ?_
  show G T350 (mkF m 27 #[rv b, iv pt, iv (Int32.ofNat cs.length), iv (Int32.ofNat (cs.length + 4))] [(.ref b), (.int (Int32.ofNat (cs.length + 4))), (.int pt)])
  have F351 := J350.fld F345 nin0
  refine Own.Sit.getF hG S350 hx (host := "") (Or.inl (hW 92 _ rfl)) Via.refl F351 rfl rfl (hb hby own_d23_27) (fun T352 S352 => ?_)
  have V353 := J350.arv V348 nin0
  show G T352 (mkF m 30 #[rv b, iv pt, iv (Int32.ofNat cs.length), iv (Int32.ofNat (cs.length + 4))] [(.ref ar), (.int (Int32.ofNat (cs.length + 4))), (.int pt)])
  refine Own.Sit.callS hG S352 hx hEL (as := [(.int pt), (.int (Int32.ofNat (cs.length + 4))), (.ref ar)]) (hW 156 _ rfl) (hW 157 _ rfl) (hW 149 _ rfl) (hW 158 _ rfl) (by decide) (own_gch4 l Z a0 H pt ar cs d1 d2 h350 S352.old V353 hsum g_r DG hp) own_pdca675b rfl rfl (hz _ rfl) (rest := []) rfl (W := 0) (Own.hw0 rfl rfl) (hb hby own_d23_30) (by decide) (by decide) (by decide) (by decide) (fun v354 vm354 T354 h354 S354 C354 q354 => ?_)
  obtain ⟨K354, ⟨r354, rfl⟩, A354⟩ := q354
  have J354 : Own.Stp Z consts_1 vm350 h350 vm354 h354 [ar] := ⟨K354, C354⟩
  refine hG.st (fun _ q => XS.pop S354.here hx rfl (hb hby own_d23_33) rfl rfl (XS.goto S354.here hx rfl (pc0 := 34) (pc' := 48) rfl (hb hby own_d23_34) (by decide) (by decide) (XS.aloadN S354.here hx rfl (hb hby own_d23_48) rfl rfl (XS.iloadN S354.here hx rfl (hb hby own_d23_49) rfl q)))) ?_
  show G T354 (mkF m 50 #[rv b, iv pt, iv (Int32.ofNat cs.length), iv (Int32.ofNat (cs.length + 4))] [(.int (Int32.ofNat (cs.length + 4))), (.ref b)])
  have J355 : Own.Stp Z consts_1 vm343 h343 vm354 h354 [ar] := Own.Stp.trans J350 J354 (all0) (allS (Or.inl (List.mem_of_getElem? (i := 0) rfl)) all0)
  have J357 : Own.Stp Z consts_1 vm0 h0 vm343 h343 [] := Own.Stp.trans J336 J343 (all0) all0
  have J358 : Own.Stp Z consts_1 vm0 h0 vm350 h350 [] := Own.Stp.trans J357 J350 (all0) all0
  have J359 : Own.Stp Z consts_1 vm0 h0 vm354 h354 [ar] := Own.Stp.trans J358 J354 (all0) (allS (Or.inl (List.mem_of_getElem? (i := 0) rfl)) all0)
  have F356 := J355.fld F347 (ninS (Exa.neArv (J359.exa E_b334) A354 (hW 79 _ rfl)) nin0)
  have E360 := J355.exa E344
  have F362 := J354.fld F351 (ninS (Exa.neArv (J359.exa E_b334) A354 (hW 79 _ rfl)) nin0)
  have F363 := J355.fld F346 (ninS (Exa.neArv (J359.exa E_b334) A354 (hW 79 _ rfl)) nin0)
  refine Own.Sit.putF hG S354 hx (host := "") (Or.inl (hW 111 _ rfl)) Via.refl F356 E360 (Or.inl (hW 112 _ rfl)) (hW 79 _ rfl) (ty := .int) (by decide) rfl rfl g_b (Safe.exa S354.warm.alike E360 (by decide) (by decide)) rfl rfl (hb hby own_d23_50) (fun T361 h361 S361 J361 W361 F361 => ?_)
  have F364 := Fld.other W361 F362 (Or.inr (slot_ne (Or.inl (hW 93 _ rfl)) (Or.inl (hW 112 _ rfl)) (by decide) (t := (.array .byte)) (by decide) (t' := .int) (by decide)))
  have F365 := Fld.other W361 F363 (Or.inr (slot_ne (Or.inl (hW 95 _ rfl)) (Or.inl (hW 112 _ rfl)) (by decide) (t := .byte) (by decide) (t' := .int) (by decide)))
  refine hG.st (fun _ q => XS.aloadN S361.here hx rfl (hb hby own_d23_53) rfl rfl q) ?_
  show G T361 (mkF m 54 #[rv b, iv pt, iv (Int32.ofNat cs.length), iv (Int32.ofNat (cs.length + 4))] [(.ref b)])
  have J366 : Own.Stp Z consts_1 vm0 h0 vm354 h361 [ar, b] := Own.Stp.trans J359 J361 (allS (List.mem_of_getElem? (i := 0) rfl) (all0)) (allS (Or.inl (List.mem_of_getElem? (i := 1) rfl)) all0)
  have E367 := J361.exa E360
  have V368 := J361.arv A354 (ninS (Ne.symm (Exa.neArv (J359.exa E_b334) A354 (hW 79 _ rfl))) nin0)
  exact Own.Sit.retO hR S361 hx hret rfl (Or.inr (Or.inr (Or.inr (Or.inr ⟨rfl, rfl, rfl⟩)))) (hb hby own_d23_54) (by decide) (by decide) ⟨(Own.keep_mono J366.1 (allS (List.mem_of_getElem? (i := 1) rfl) (allS (List.mem_of_getElem? (i := 0) rfl) all0))), rfl, E367, F364, F365, (by rw [List.length_append]; exact F361), V368⟩
theorem own_ef_own_bpi4 (m : MethodId) (b : Addr) (pt : Int32) : entryFrame m #[(.ref b), (.int pt)] 2 = mkF m 0 #[rv b, iv pt] [] := by first | (simp [entryFrame, mkF, argsToLocals, Value.category]; done) | rfl
set_option maxRecDepth 65536 in
set_option maxHeartbeats 40000000 in
theorem own_bpi4 (l : Launch) (Z : State) (a0 : Array Value) (H : own_Wld Z a0) {cw : List Jvm.Cond} (b : Addr) (pt : Int32) (ar : Addr) (cs : List Int32) (d1 d2 : Addr) (h0 : Heap) (O0 : Ext Z.heap h0) {kv : ClassId} (SB : own_SB Z h0 b ar kv cs) (hsum : cs.length + 4 ≤ 16) (g_b : Z.heap.size ≤ b) (g_r : Z.heap.size ≤ ar) {k1 k2 : ClassId} (DG : own_Dig Z d1 d2 k1 k2) (hp : 1000 ≤ pt.toInt ∧ pt.toInt ≤ 9999) :
    Own.Con l Z consts_1 (⟨"java/lang/StringBuilder", "append", "(I)Ljava/lang/StringBuilder;"⟩ : MethodName) jdk_67_method_15_code 2 (some (.object "java/lang/StringBuilder")) cw ({ frames := 2, cells := 0, slots := 0, locals := 33 } : Room) #[(.ref b), (.int pt)] h0 (fun v h => Keep h0 h [b, ar] ∧ v = some (.ref b) ∧ own_SB Z h b ar kv (cs ++ own_dig4 pt)) := by
  have hw := H.1
  have hW := fun (i : Nat) (w : Jvm.Cond) (e : tables_1[i]? = some w) => hw w (List.mem_of_getElem? e)
  have hCm := H.2.1
  have hSi := H.2.2.1
  have hEL := H.2.2.2
  have hWs : ∀ d ∈ StrChars.Road.words, d.before a0 Z = true := fun d hd => hw d (own_wbackV d hd)
  have hWl : ∀ d ∈ StrChars.Road.wordsLen, d.before a0 Z = true := fun d hd => hw d (own_wlenW d hd)
  have hSA : ∀ d ∈ Bundle.stringAtoms, d.before a0 Z = true := fun d hd => hw d (own_wSA d hd)
  refine Own.Con.of own_pn6aade2 hEL O0 ?_
  intro p e s m below meth c T0 G vm0 hx hby hml hret hnm hG hR S0
  have hz : ∀ L : Array Slot, L.size = 2 → L.size = c.maxLocals := fun L q => q.trans hml.symm
  rw [own_ef_own_bpi4]
  show G T0 (mkF m 0 #[rv b, iv pt] [])
  obtain ⟨E_b369, Fv_b369, Fc_b369, Fn_b369, A_r369⟩ := id SB
  refine hG.st (fun _ q => XS.aloadN S0.here hx rfl (hb hby own_d24_0) rfl rfl (XS.iloadN S0.here hx rfl (hb hby own_d24_1) rfl q)) ?_
  show G T0 (mkF m 2 #[rv b, iv pt] [(.int pt), (.ref b)])
  have SB370 : own_SB Z h0 b ar kv cs := ⟨E_b369, Fv_b369, Fc_b369, Fn_b369, A_r369⟩
  refine Own.Sit.callU hG S0 hx hEL (as := [(.int pt)]) (hW 143 _ rfl) (Own.same_of (by decide) (hW 144 _ rfl) (hW 116 _ rfl) rfl) (hW 144 _ rfl) (hW 103 _ rfl) (by decide) (hW 88 _ rfl) (hW 146 _ rfl) E_b369 (own_api4 l Z a0 H b pt ar cs d1 d2 h0 S0.old SB370 hsum g_b g_r DG hp) own_pd757924 rfl rfl (hz _ rfl) (rest := []) rfl (W := 0) (Own.hw0 rfl rfl) (hb hby own_d24_2) (by decide) (by decide) (by decide) (by decide) (fun v371 vm371 T371 h371 S371 C371 q371 => ?_)
  obtain ⟨K371, rfl, SB371⟩ := q371
  have J371 : Own.Stp Z consts_1 vm0 h0 vm371 h371 [b, ar] := ⟨K371, C371⟩
  obtain ⟨E_b372, Fv_b372, Fc_b372, Fn_b372, A_r372⟩ := id SB371
  refine hG.st (fun _ q => XS.pop S371.here hx rfl (hb hby own_d24_5) rfl rfl (XS.aloadN S371.here hx rfl (hb hby own_d24_6) rfl rfl q)) ?_
  show G T371 (mkF m 7 #[rv b, iv pt] [(.ref b)])
  exact Own.Sit.retO hR S371 hx hret rfl (Or.inr (Or.inr (Or.inr (Or.inr ⟨rfl, rfl, rfl⟩)))) (hb hby own_d24_7) (by decide) (by decide) ⟨J371.1, rfl, E_b372, Fv_b372, Fc_b372, Fn_b372, A_r372⟩
theorem own_ef_own_ssz5 (m : MethodId) (pt : Int32) : entryFrame m #[(.int pt)] 4 = mkF m 0 #[iv pt, .unset, .unset, .unset] [] := by first | (simp [entryFrame, mkF, argsToLocals, Value.category]; done) | rfl
set_option maxRecDepth 65536 in
set_option maxHeartbeats 40000000 in
theorem own_ssz5 (l : Launch) (Z : State) (a0 : Array Value) (H : own_Wld Z a0) {cw : List Jvm.Cond} (pt : Int32) (h0 : Heap) (O0 : Ext Z.heap h0) (hp : 10000 ≤ pt.toInt ∧ pt.toInt ≤ 65535) :
    Own.Con l Z consts_1 (⟨"java/lang/Integer", "stringSize", "(I)I"⟩ : MethodName) jdk_33_method_13_code 4 (some .int) cw ({ frames := 0, cells := 0, slots := 0, locals := 0 } : Room) #[(.int pt)] h0 (fun v h => Keep h0 h [] ∧ v = some (.int 5)) := by
  have hw := H.1
  have hW := fun (i : Nat) (w : Jvm.Cond) (e : tables_1[i]? = some w) => hw w (List.mem_of_getElem? e)
  have hCm := H.2.1
  have hSi := H.2.2.1
  have hEL := H.2.2.2
  have hWs : ∀ d ∈ StrChars.Road.words, d.before a0 Z = true := fun d hd => hw d (own_wbackV d hd)
  have hWl : ∀ d ∈ StrChars.Road.wordsLen, d.before a0 Z = true := fun d hd => hw d (own_wlenW d hd)
  have hSA : ∀ d ∈ Bundle.stringAtoms, d.before a0 Z = true := fun d hd => hw d (own_wSA d hd)
  refine Own.Con.of own_pn39fe1f hEL O0 ?_
  intro p e s m below meth c T0 G vm0 hx hby hml hret hnm hG hR S0
  have hz : ∀ L : Array Slot, L.size = 4 → L.size = c.maxLocals := fun L q => q.trans hml.symm
  rw [own_ef_own_ssz5]
  show G T0 (mkF m 0 #[iv pt, .unset, .unset, .unset] [])
  refine hG.st (fun _ q => XS.iconst S0.here hx rfl (hb hby own_d21_0) (XS.istoreN S0.here hx rfl (hb hby own_d21_1) rfl (l' := #[iv pt, iv 1, .unset, .unset]) rfl (XS.iloadN S0.here hx rfl (hb hby own_d21_2) rfl (XS.ifNo S0.here hx rfl (hb hby own_d21_3) rfl ((if0 _ _).trans (flt ((by rw [Int32.lt_iff_toInt_lt, show (0 : Int32).toInt = 0 from by decide]; omega) : ¬ (pt < (0 : Int32)))).1) (XS.iconst S0.here hx rfl (hb hby own_d21_6) (XS.istoreN S0.here hx rfl (hb hby own_d21_7) rfl (l' := #[iv pt, iv 0, .unset, .unset]) rfl q)))))) ?_
  show G T0 (mkF m 8 #[iv pt, iv 0, .unset, .unset] [])
  refine hG.st (fun _ q => XS.iloadN S0.here hx rfl (hb hby own_d21_8) rfl (XS.ineg S0.here hx rfl (hb hby own_d21_9) rfl (XS.istoreN S0.here hx rfl (hb hby own_d21_10) rfl (l' := #[iv (-pt), iv 0, .unset, .unset]) rfl (XS.bipush S0.here hx rfl (hb hby own_d21_11) (XS.istoreN S0.here hx rfl (hb hby own_d21_13) rfl (l' := #[iv (-pt), iv 0, iv (-10 : Int32), .unset]) rfl (XS.iconst S0.here hx rfl (hb hby own_d21_14) q)))))) ?_
  show G T0 (mkF m 15 #[iv (-pt), iv 0, iv (-10 : Int32), .unset] [(.int 1)])
  refine hG.st (fun _ q => XS.istoreN S0.here hx rfl (hb hby own_d21_15) rfl (l' := #[iv (-pt), iv 0, iv (-10 : Int32), iv 1]) rfl (XS.iloadN S0.here hx rfl (hb hby own_d21_16) rfl (XS.bipush S0.here hx rfl (hb hby own_d21_17) (XS.icmpNo S0.here hx rfl (hb hby own_d21_19) rfl (tlt (by decide : (1 : Int32) < (10 : Int32))).2.1 (XS.iloadN S0.here hx rfl (hb hby own_d21_22) rfl (XS.iloadN S0.here hx rfl (hb hby own_d21_23) rfl q)))))) ?_
  show G T0 (mkF m 24 #[iv (-pt), iv 0, iv (-10 : Int32), iv 1] [(.int (-10 : Int32)), (.int (-pt))])
  refine hG.st (fun _ q => XS.icmpYes S0.here hx rfl (pc0 := 24) (pc' := 31) rfl (hb hby own_d21_24) rfl (flt ((by rw [Int32.lt_iff_toInt_lt, own_neg (x := pt) ⟨by omega, by omega⟩, show (-10 : Int32).toInt = -10 from by decide]; omega) : ¬ ((-10 : Int32) < (-pt)))).2.2.2 (by decide) (by decide) (XS.bipush S0.here hx rfl (hb hby own_d21_31) (XS.iloadN S0.here hx rfl (hb hby own_d21_33) rfl (XS.imul S0.here hx rfl (hb hby own_d21_34) rfl (XS.istoreN S0.here hx rfl (hb hby own_d21_35) rfl (l' := #[iv (-pt), iv 0, iv (-100 : Int32), iv 1]) rfl (XS.iinc S0.here hx rfl (hb hby own_d21_36) rfl (l' := #[iv (-pt), iv 0, iv (-100 : Int32), iv 2]) rfl q)))))) ?_
  show G T0 (mkF m 39 #[iv (-pt), iv 0, iv (-100 : Int32), iv 2] [])
  refine hG.st (fun _ q => XS.goto S0.here hx rfl (pc0 := 39) (pc' := 16) rfl (hb hby own_d21_39) (by decide) (by decide) (XS.iloadN S0.here hx rfl (hb hby own_d21_16) rfl (XS.bipush S0.here hx rfl (hb hby own_d21_17) (XS.icmpNo S0.here hx rfl (hb hby own_d21_19) rfl (tlt (by decide : (2 : Int32) < (10 : Int32))).2.1 (XS.iloadN S0.here hx rfl (hb hby own_d21_22) rfl (XS.iloadN S0.here hx rfl (hb hby own_d21_23) rfl q)))))) ?_
  show G T0 (mkF m 24 #[iv (-pt), iv 0, iv (-100 : Int32), iv 2] [(.int (-100 : Int32)), (.int (-pt))])
  refine hG.st (fun _ q => XS.icmpYes S0.here hx rfl (pc0 := 24) (pc' := 31) rfl (hb hby own_d21_24) rfl (flt ((by rw [Int32.lt_iff_toInt_lt, own_neg (x := pt) ⟨by omega, by omega⟩, show (-100 : Int32).toInt = -100 from by decide]; omega) : ¬ ((-100 : Int32) < (-pt)))).2.2.2 (by decide) (by decide) (XS.bipush S0.here hx rfl (hb hby own_d21_31) (XS.iloadN S0.here hx rfl (hb hby own_d21_33) rfl (XS.imul S0.here hx rfl (hb hby own_d21_34) rfl (XS.istoreN S0.here hx rfl (hb hby own_d21_35) rfl (l' := #[iv (-pt), iv 0, iv (-1000 : Int32), iv 2]) rfl (XS.iinc S0.here hx rfl (hb hby own_d21_36) rfl (l' := #[iv (-pt), iv 0, iv (-1000 : Int32), iv 3]) rfl q)))))) ?_
  show G T0 (mkF m 39 #[iv (-pt), iv 0, iv (-1000 : Int32), iv 3] [])
  refine hG.st (fun _ q => XS.goto S0.here hx rfl (pc0 := 39) (pc' := 16) rfl (hb hby own_d21_39) (by decide) (by decide) (XS.iloadN S0.here hx rfl (hb hby own_d21_16) rfl (XS.bipush S0.here hx rfl (hb hby own_d21_17) (XS.icmpNo S0.here hx rfl (hb hby own_d21_19) rfl (tlt (by decide : (3 : Int32) < (10 : Int32))).2.1 (XS.iloadN S0.here hx rfl (hb hby own_d21_22) rfl (XS.iloadN S0.here hx rfl (hb hby own_d21_23) rfl q)))))) ?_
  show G T0 (mkF m 24 #[iv (-pt), iv 0, iv (-1000 : Int32), iv 3] [(.int (-1000 : Int32)), (.int (-pt))])
  refine hG.st (fun _ q => XS.icmpYes S0.here hx rfl (pc0 := 24) (pc' := 31) rfl (hb hby own_d21_24) rfl (flt ((by rw [Int32.lt_iff_toInt_lt, own_neg (x := pt) ⟨by omega, by omega⟩, show (-1000 : Int32).toInt = -1000 from by decide]; omega) : ¬ ((-1000 : Int32) < (-pt)))).2.2.2 (by decide) (by decide) (XS.bipush S0.here hx rfl (hb hby own_d21_31) (XS.iloadN S0.here hx rfl (hb hby own_d21_33) rfl (XS.imul S0.here hx rfl (hb hby own_d21_34) rfl (XS.istoreN S0.here hx rfl (hb hby own_d21_35) rfl (l' := #[iv (-pt), iv 0, iv (-10000 : Int32), iv 3]) rfl (XS.iinc S0.here hx rfl (hb hby own_d21_36) rfl (l' := #[iv (-pt), iv 0, iv (-10000 : Int32), iv 4]) rfl q)))))) ?_
  show G T0 (mkF m 39 #[iv (-pt), iv 0, iv (-10000 : Int32), iv 4] [])
  refine hG.st (fun _ q => XS.goto S0.here hx rfl (pc0 := 39) (pc' := 16) rfl (hb hby own_d21_39) (by decide) (by decide) (XS.iloadN S0.here hx rfl (hb hby own_d21_16) rfl (XS.bipush S0.here hx rfl (hb hby own_d21_17) (XS.icmpNo S0.here hx rfl (hb hby own_d21_19) rfl (tlt (by decide : (4 : Int32) < (10 : Int32))).2.1 (XS.iloadN S0.here hx rfl (hb hby own_d21_22) rfl (XS.iloadN S0.here hx rfl (hb hby own_d21_23) rfl q)))))) ?_
  show G T0 (mkF m 24 #[iv (-pt), iv 0, iv (-10000 : Int32), iv 4] [(.int (-10000 : Int32)), (.int (-pt))])
  refine hG.st (fun _ q => XS.icmpYes S0.here hx rfl (pc0 := 24) (pc' := 31) rfl (hb hby own_d21_24) rfl (flt ((by rw [Int32.lt_iff_toInt_lt, own_neg (x := pt) ⟨by omega, by omega⟩, show (-10000 : Int32).toInt = -10000 from by decide]; omega) : ¬ ((-10000 : Int32) < (-pt)))).2.2.2 (by decide) (by decide) (XS.bipush S0.here hx rfl (hb hby own_d21_31) (XS.iloadN S0.here hx rfl (hb hby own_d21_33) rfl (XS.imul S0.here hx rfl (hb hby own_d21_34) rfl (XS.istoreN S0.here hx rfl (hb hby own_d21_35) rfl (l' := #[iv (-pt), iv 0, iv (-100000 : Int32), iv 4]) rfl (XS.iinc S0.here hx rfl (hb hby own_d21_36) rfl (l' := #[iv (-pt), iv 0, iv (-100000 : Int32), iv 5]) rfl q)))))) ?_
  show G T0 (mkF m 39 #[iv (-pt), iv 0, iv (-100000 : Int32), iv 5] [])
  refine hG.st (fun _ q => XS.goto S0.here hx rfl (pc0 := 39) (pc' := 16) rfl (hb hby own_d21_39) (by decide) (by decide) (XS.iloadN S0.here hx rfl (hb hby own_d21_16) rfl (XS.bipush S0.here hx rfl (hb hby own_d21_17) (XS.icmpNo S0.here hx rfl (hb hby own_d21_19) rfl (tlt (by decide : (5 : Int32) < (10 : Int32))).2.1 (XS.iloadN S0.here hx rfl (hb hby own_d21_22) rfl (XS.iloadN S0.here hx rfl (hb hby own_d21_23) rfl q)))))) ?_
  show G T0 (mkF m 24 #[iv (-pt), iv 0, iv (-100000 : Int32), iv 5] [(.int (-100000 : Int32)), (.int (-pt))])
  refine hG.st (fun _ q => XS.icmpNo S0.here hx rfl (hb hby own_d21_24) rfl (tlt ((by rw [Int32.lt_iff_toInt_lt, own_neg (x := pt) ⟨by omega, by omega⟩, show (-100000 : Int32).toInt = -100000 from by decide]; omega) : (-100000 : Int32) < (-pt))).2.2.2 (XS.iloadN S0.here hx rfl (hb hby own_d21_27) rfl (XS.iloadN S0.here hx rfl (hb hby own_d21_28) rfl (XS.iadd S0.here hx rfl (hb hby own_d21_29) rfl q)))) ?_
  show G T0 (mkF m 30 #[iv (-pt), iv 0, iv (-100000 : Int32), iv 5] [(.int 5)])
  exact Own.Sit.retO hR S0 hx hret rfl (Or.inl ⟨rfl, Or.inl rfl, _, rfl⟩) (hb hby own_d21_30) (by decide) (by decide) ⟨(Keep.refl _ _), rfl⟩
theorem own_ef_own_gch5 (m : MethodId) (cs : List Int32) (pt : Int32) (ar : Addr) : entryFrame m #[(.int pt), (.int (Int32.ofNat (cs.length + 5))), (.ref ar)] 7 = mkF m 0 #[iv pt, iv (Int32.ofNat (cs.length + 5)), rv ar, .unset, .unset, .unset, .unset] [] := by first | (simp [entryFrame, mkF, argsToLocals, Value.category]; done) | rfl
set_option maxRecDepth 65536 in
set_option maxHeartbeats 40000000 in
theorem own_gch5 (l : Launch) (Z : State) (a0 : Array Value) (H : own_Wld Z a0) {cw : List Jvm.Cond} (pt : Int32) (ar : Addr) (cs : List Int32) (d1 d2 : Addr) (h0 : Heap) (O0 : Ext Z.heap h0) {kv : ClassId} (A_r : Arv Z h0 ar kv .byte (16 : Int32) (own_buf cs) (.int 0)) (hsum : cs.length + 5 ≤ 16) (g_r : Z.heap.size ≤ ar) {k1 k2 : ClassId} (DG : own_Dig Z d1 d2 k1 k2) (hp : 10000 ≤ pt.toInt ∧ pt.toInt ≤ 65535) :
    Own.Con l Z consts_1 (⟨"java/lang/Integer", "getChars", "(II[B)I"⟩ : MethodName) jdk_33_method_12_code 7 (some .int) cw ({ frames := 0, cells := 0, slots := 0, locals := 0 } : Room) #[(.int pt), (.int (Int32.ofNat (cs.length + 5))), (.ref ar)] h0 (fun v h => Keep h0 h [ar] ∧ (∃ r, v = some (.int r)) ∧ Arv Z h ar kv .byte (16 : Int32) (own_buf (cs ++ own_dig5 pt)) (.int 0)) := by
  have hw := H.1
  have hW := fun (i : Nat) (w : Jvm.Cond) (e : tables_1[i]? = some w) => hw w (List.mem_of_getElem? e)
  have hCm := H.2.1
  have hSi := H.2.2.1
  have hEL := H.2.2.2
  have hWs : ∀ d ∈ StrChars.Road.words, d.before a0 Z = true := fun d hd => hw d (own_wbackV d hd)
  have hWl : ∀ d ∈ StrChars.Road.wordsLen, d.before a0 Z = true := fun d hd => hw d (own_wlenW d hd)
  have hSA : ∀ d ∈ Bundle.stringAtoms, d.before a0 Z = true := fun d hd => hw d (own_wSA d hd)
  refine Own.Con.of own_pna51775 hEL O0 ?_
  intro p e s m below meth c T0 G vm0 hx hby hml hret hnm hG hR S0
  have hz : ∀ L : Array Slot, L.size = 7 → L.size = c.maxLocals := fun L q => q.trans hml.symm
  rw [own_ef_own_gch5]
  show G T0 (mkF m 0 #[iv pt, iv (Int32.ofNat (cs.length + 5)), rv ar, .unset, .unset, .unset, .unset] [])
  obtain ⟨Sd1, Ad1, Sd2, Ad2⟩ := id DG
  refine hG.st (fun _ q => XS.iloadN S0.here hx rfl (hb hby own_d22_0) rfl (XS.istore S0.here hx rfl (hb hby own_d22_1) rfl (l' := #[iv pt, iv (Int32.ofNat (cs.length + 5)), rv ar, .unset, .unset, iv (Int32.ofNat (cs.length + 5)), .unset]) rfl (XS.iloadN S0.here hx rfl (hb hby own_d22_3) rfl (XS.ifYes S0.here hx rfl (pc0 := 4) (pc' := 11) rfl (hb hby own_d22_4) rfl ((if0 _ _).trans (flt ((by rw [Int32.lt_iff_toInt_lt, show (0 : Int32).toInt = 0 from by decide]; omega) : ¬ (pt < (0 : Int32)))).2.1) (by decide) (by decide) (XS.iconst S0.here hx rfl (hb hby own_d22_11) (XS.istore S0.here hx rfl (hb hby own_d22_12) rfl (l' := #[iv pt, iv (Int32.ofNat (cs.length + 5)), rv ar, .unset, .unset, iv (Int32.ofNat (cs.length + 5)), iv 0]) rfl q)))))) ?_
  show G T0 (mkF m 14 #[iv pt, iv (Int32.ofNat (cs.length + 5)), rv ar, .unset, .unset, iv (Int32.ofNat (cs.length + 5)), iv 0] [])
  refine hG.st (fun _ q => XS.iload S0.here hx rfl (hb hby own_d22_14) rfl (XS.ifNo S0.here hx rfl (hb hby own_d22_16) rfl ((if0 _ _).trans (teq (by decide : (0 : Int32) = (0 : Int32))).2) (XS.iloadN S0.here hx rfl (hb hby own_d22_19) rfl (XS.ineg S0.here hx rfl (hb hby own_d22_20) rfl (XS.istoreN S0.here hx rfl (hb hby own_d22_21) rfl (l' := #[iv (-pt), iv (Int32.ofNat (cs.length + 5)), rv ar, .unset, .unset, iv (Int32.ofNat (cs.length + 5)), iv 0]) rfl q))))) ?_
  show G T0 (mkF m 22 #[iv (-pt), iv (Int32.ofNat (cs.length + 5)), rv ar, .unset, .unset, iv (Int32.ofNat (cs.length + 5)), iv 0] [])
  obtain ⟨i0, ei0⟩ : ∃ z : Int32, z = (-pt) := ⟨_, rfl⟩
  rw [← ei0]
  show G T0 (mkF m 22 #[iv i0, iv (Int32.ofNat (cs.length + 5)), rv ar, .unset, .unset, iv (Int32.ofNat (cs.length + 5)), iv 0] [])
  have hi0 : i0.toInt = -(pt.toInt) := by rw [ei0, own_neg ⟨by omega, by omega⟩]
  refine hG.st (fun _ q => XS.iloadN S0.here hx rfl (hb hby own_d22_22) rfl (XS.bipush S0.here hx rfl (hb hby own_d22_23) (XS.icmpNo S0.here hx rfl (hb hby own_d22_25) rfl (flt ((by rw [Int32.lt_iff_toInt_lt, hi0, show (-100 : Int32).toInt = -100 from by decide]; omega) : ¬ ((-100 : Int32) < i0))).2.2.1 (XS.iloadN S0.here hx rfl (hb hby own_d22_28) rfl (XS.bipush S0.here hx rfl (hb hby own_d22_29) (XS.idiv S0.here hx rfl (hb hby own_d22_31) rfl (by decide) q)))))) ?_
  show G T0 (mkF m 32 #[iv i0, iv (Int32.ofNat (cs.length + 5)), rv ar, .unset, .unset, iv (Int32.ofNat (cs.length + 5)), iv 0] [(.int (i0 / (100 : Int32)))])
  refine hG.st (fun _ q => XS.istoreN S0.here hx rfl (hb hby own_d22_32) rfl (l' := #[iv i0, iv (Int32.ofNat (cs.length + 5)), rv ar, iv (i0 / (100 : Int32)), .unset, iv (Int32.ofNat (cs.length + 5)), iv 0]) rfl q) ?_
  show G T0 (mkF m 33 #[iv i0, iv (Int32.ofNat (cs.length + 5)), rv ar, iv (i0 / (100 : Int32)), .unset, iv (Int32.ofNat (cs.length + 5)), iv 0] [])
  obtain ⟨i1, ei1⟩ : ∃ z : Int32, z = (i0 / (100 : Int32)) := ⟨_, rfl⟩
  rw [← ei1]
  show G T0 (mkF m 33 #[iv i0, iv (Int32.ofNat (cs.length + 5)), rv ar, iv i1, .unset, iv (Int32.ofNat (cs.length + 5)), iv 0] [])
  refine hG.st (fun _ q => XS.iloadN S0.here hx rfl (hb hby own_d22_33) rfl (XS.bipush S0.here hx rfl (hb hby own_d22_34) (XS.imul S0.here hx rfl (hb hby own_d22_36) rfl (XS.iloadN S0.here hx rfl (hb hby own_d22_37) rfl (XS.isub S0.here hx rfl (hb hby own_d22_38) rfl (XS.istore S0.here hx rfl (hb hby own_d22_39) rfl (l' := #[iv i0, iv (Int32.ofNat (cs.length + 5)), rv ar, iv i1, iv ((i1 * (100 : Int32)) - i0), iv (Int32.ofNat (cs.length + 5)), iv 0]) rfl q)))))) ?_
  show G T0 (mkF m 41 #[iv i0, iv (Int32.ofNat (cs.length + 5)), rv ar, iv i1, iv ((i1 * (100 : Int32)) - i0), iv (Int32.ofNat (cs.length + 5)), iv 0] [])
  obtain ⟨r1, er1⟩ : ∃ z : Int32, z = ((i1 * (100 : Int32)) - i0) := ⟨_, rfl⟩
  rw [← er1]
  show G T0 (mkF m 41 #[iv i0, iv (Int32.ofNat (cs.length + 5)), rv ar, iv i1, iv r1, iv (Int32.ofNat (cs.length + 5)), iv 0] [])
  have g1 := own_g1 hi0 ⟨by omega, by omega⟩
  have hi1 : i1.toInt = -(pt.toInt / 100) := by rw [ei1]; exact g1.1
  have hr1 : r1.toInt = pt.toInt % 100 := by rw [er1, ei1]; exact g1.2
  refine hG.st (fun _ q => XS.iloadN S0.here hx rfl (hb hby own_d22_41) rfl (XS.istoreN S0.here hx rfl (hb hby own_d22_42) rfl (l' := #[iv i1, iv (Int32.ofNat (cs.length + 5)), rv ar, iv i1, iv r1, iv (Int32.ofNat (cs.length + 5)), iv 0]) rfl (XS.aloadN S0.here hx rfl (hb hby own_d22_43) rfl rfl (XS.iinc S0.here hx rfl (hb hby own_d22_44) rfl (l' := #[iv i1, iv (Int32.ofNat (cs.length + 5)), rv ar, iv i1, iv r1, iv ((Int32.ofNat (cs.length + 5)) + (-1 : Int32)), iv 0]) rfl q)))) ?_
  show G T0 (mkF m 47 #[iv i1, iv (Int32.ofNat (cs.length + 5)), rv ar, iv i1, iv r1, iv ((Int32.ofNat (cs.length + 5)) + (-1 : Int32)), iv 0] [(.ref ar)])
  rw [show (Int32.ofNat (cs.length + 5)) + (-1 : Int32) = Int32.ofNat (cs.length + 4) from own_dec (cs.length + 4)]
  show G T0 (mkF m 47 #[iv i1, iv (Int32.ofNat (cs.length + 5)), rv ar, iv i1, iv r1, iv (Int32.ofNat (cs.length + 4)), iv 0] [(.ref ar)])
  refine hG.st (fun _ q => XS.iload S0.here hx rfl (hb hby own_d22_47) rfl q) ?_
  show G T0 (mkF m 49 #[iv i1, iv (Int32.ofNat (cs.length + 5)), rv ar, iv i1, iv r1, iv (Int32.ofNat (cs.length + 4)), iv 0] [(.int (Int32.ofNat (cs.length + 4))), (.ref ar)])
  refine Own.Sit.getS hG S0 hx (host := "") (Or.inl (hW 159 _ rfl)) Via.refl (Sd1.ext S0.old) rfl (hb hby own_d22_49) (fun T373 S373 => ?_)
  refine hG.st (fun _ q => XS.iload S373.here hx rfl (hb hby own_d22_52) rfl q) ?_
  show G T373 (mkF m 54 #[iv i1, iv (Int32.ofNat (cs.length + 5)), rv ar, iv i1, iv r1, iv (Int32.ofNat (cs.length + 4)), iv 0] [(.int r1), (.ref d1), (.int (Int32.ofNat (cs.length + 4))), (.ref ar)])
  have V374 := Ad1.ext S373.old
  have hj375 : ¬ r1 < 0 ∧ r1 < 100 := ⟨by rw [Int32.lt_iff_toInt_lt, hr1, show (0 : Int32).toInt = 0 from rfl]; omega, by rw [Int32.lt_iff_toInt_lt, hr1, show (100 : Int32).toInt = 100 from rfl]; omega⟩
  refine Own.Sit.baload hG S373 hx V374 hj375 (own_ones_at hj375) rfl rfl (hb hby own_d22_54) ?_
  show G T373 (mkF m 55 #[iv i1, iv (Int32.ofNat (cs.length + 5)), rv ar, iv i1, iv r1, iv (Int32.ofNat (cs.length + 4)), iv 0] [(.int ((48 : Int32) + (r1 % (10 : Int32)))), (.int (Int32.ofNat (cs.length + 4))), (.ref ar)])
  refine Own.Sit.stB hG S373 hx A_r g_r (Own.Safe.size S373.warm A_r (hW 6 _ rfl) (own_sz16 hw)) (own_idx (by omega)) (cs.length + 4) (own_tn (by omega)) (by (try simp only [List.length_set]); rw [own_bufl (by omega)]; omega) rfl rfl (hb hby own_d22_55) (fun T376 h376 S376 J376 V376 => ?_)
  refine hG.st (fun _ q => XS.aloadN S376.here hx rfl (hb hby own_d22_56) rfl rfl (XS.iinc S376.here hx rfl (hb hby own_d22_57) rfl (l' := #[iv i1, iv (Int32.ofNat (cs.length + 5)), rv ar, iv i1, iv r1, iv ((Int32.ofNat (cs.length + 4)) + (-1 : Int32)), iv 0]) rfl q)) ?_
  show G T376 (mkF m 60 #[iv i1, iv (Int32.ofNat (cs.length + 5)), rv ar, iv i1, iv r1, iv ((Int32.ofNat (cs.length + 4)) + (-1 : Int32)), iv 0] [(.ref ar)])
  rw [show (Int32.ofNat (cs.length + 4)) + (-1 : Int32) = Int32.ofNat (cs.length + 3) from own_dec (cs.length + 3)]
  show G T376 (mkF m 60 #[iv i1, iv (Int32.ofNat (cs.length + 5)), rv ar, iv i1, iv r1, iv (Int32.ofNat (cs.length + 3)), iv 0] [(.ref ar)])
  refine hG.st (fun _ q => XS.iload S376.here hx rfl (hb hby own_d22_60) rfl q) ?_
  show G T376 (mkF m 62 #[iv i1, iv (Int32.ofNat (cs.length + 5)), rv ar, iv i1, iv r1, iv (Int32.ofNat (cs.length + 3)), iv 0] [(.int (Int32.ofNat (cs.length + 3))), (.ref ar)])
  refine Own.Sit.getS hG S376 hx (host := "") (Or.inl (hW 221 _ rfl)) Via.refl (Sd2.ext S376.old) rfl (hb hby own_d22_62) (fun T377 S377 => ?_)
  refine hG.st (fun _ q => XS.iload S377.here hx rfl (hb hby own_d22_65) rfl q) ?_
  show G T377 (mkF m 67 #[iv i1, iv (Int32.ofNat (cs.length + 5)), rv ar, iv i1, iv r1, iv (Int32.ofNat (cs.length + 3)), iv 0] [(.int r1), (.ref d2), (.int (Int32.ofNat (cs.length + 3))), (.ref ar)])
  have V378 := Ad2.ext S377.old
  have hj379 : ¬ r1 < 0 ∧ r1 < 100 := ⟨by rw [Int32.lt_iff_toInt_lt, hr1, show (0 : Int32).toInt = 0 from rfl]; omega, by rw [Int32.lt_iff_toInt_lt, hr1, show (100 : Int32).toInt = 100 from rfl]; omega⟩
  refine Own.Sit.baload hG S377 hx V378 hj379 (own_tens_at hj379) rfl rfl (hb hby own_d22_67) ?_
  show G T377 (mkF m 68 #[iv i1, iv (Int32.ofNat (cs.length + 5)), rv ar, iv i1, iv r1, iv (Int32.ofNat (cs.length + 3)), iv 0] [(.int ((48 : Int32) + (r1 / (10 : Int32)))), (.int (Int32.ofNat (cs.length + 3))), (.ref ar)])
  refine Own.Sit.stB hG S377 hx V376 g_r (Own.Safe.size S377.warm V376 (hW 6 _ rfl) (own_sz16 hw)) (own_idx (by omega)) (cs.length + 3) (own_tn (by omega)) (by (try simp only [List.length_set]); rw [own_bufl (by omega)]; omega) rfl rfl (hb hby own_d22_68) (fun T380 h380 S380 J380 V380 => ?_)
  refine hG.st (fun _ q => XS.goto S380.here hx rfl (pc0 := 69) (pc' := 22) rfl (hb hby own_d22_69) (by decide) (by decide) (XS.iloadN S380.here hx rfl (hb hby own_d22_22) rfl (XS.bipush S380.here hx rfl (hb hby own_d22_23) (XS.icmpNo S380.here hx rfl (hb hby own_d22_25) rfl (flt ((by rw [Int32.lt_iff_toInt_lt, hi1, show (-100 : Int32).toInt = -100 from by decide]; omega) : ¬ ((-100 : Int32) < i1))).2.2.1 (XS.iloadN S380.here hx rfl (hb hby own_d22_28) rfl (XS.bipush S380.here hx rfl (hb hby own_d22_29) q)))))) ?_
  show G T380 (mkF m 31 #[iv i1, iv (Int32.ofNat (cs.length + 5)), rv ar, iv i1, iv r1, iv (Int32.ofNat (cs.length + 3)), iv 0] [(.int 100), (.int i1)])
  refine hG.st (fun _ q => XS.idiv S380.here hx rfl (hb hby own_d22_31) rfl (by decide) (XS.istoreN S380.here hx rfl (hb hby own_d22_32) rfl (l' := #[iv i1, iv (Int32.ofNat (cs.length + 5)), rv ar, iv (i1 / (100 : Int32)), iv r1, iv (Int32.ofNat (cs.length + 3)), iv 0]) rfl q)) ?_
  show G T380 (mkF m 33 #[iv i1, iv (Int32.ofNat (cs.length + 5)), rv ar, iv (i1 / (100 : Int32)), iv r1, iv (Int32.ofNat (cs.length + 3)), iv 0] [])
  obtain ⟨i2, ei2⟩ : ∃ z : Int32, z = (i1 / (100 : Int32)) := ⟨_, rfl⟩
  rw [← ei2]
  show G T380 (mkF m 33 #[iv i1, iv (Int32.ofNat (cs.length + 5)), rv ar, iv i2, iv r1, iv (Int32.ofNat (cs.length + 3)), iv 0] [])
  refine hG.st (fun _ q => XS.iloadN S380.here hx rfl (hb hby own_d22_33) rfl (XS.bipush S380.here hx rfl (hb hby own_d22_34) (XS.imul S380.here hx rfl (hb hby own_d22_36) rfl (XS.iloadN S380.here hx rfl (hb hby own_d22_37) rfl (XS.isub S380.here hx rfl (hb hby own_d22_38) rfl (XS.istore S380.here hx rfl (hb hby own_d22_39) rfl (l' := #[iv i1, iv (Int32.ofNat (cs.length + 5)), rv ar, iv i2, iv ((i2 * (100 : Int32)) - i1), iv (Int32.ofNat (cs.length + 3)), iv 0]) rfl q)))))) ?_
  show G T380 (mkF m 41 #[iv i1, iv (Int32.ofNat (cs.length + 5)), rv ar, iv i2, iv ((i2 * (100 : Int32)) - i1), iv (Int32.ofNat (cs.length + 3)), iv 0] [])
  obtain ⟨r2, er2⟩ : ∃ z : Int32, z = ((i2 * (100 : Int32)) - i1) := ⟨_, rfl⟩
  rw [← er2]
  show G T380 (mkF m 41 #[iv i1, iv (Int32.ofNat (cs.length + 5)), rv ar, iv i2, iv r2, iv (Int32.ofNat (cs.length + 3)), iv 0] [])
  have g2 := own_g1 hi1 ⟨by omega, by omega⟩
  have hi2 : i2.toInt = -((pt.toInt / 100) / 100) := by rw [ei2]; exact g2.1
  have hr2 : r2.toInt = (pt.toInt / 100) % 100 := by rw [er2, ei2]; exact g2.2
  refine hG.st (fun _ q => XS.iloadN S380.here hx rfl (hb hby own_d22_41) rfl (XS.istoreN S380.here hx rfl (hb hby own_d22_42) rfl (l' := #[iv i2, iv (Int32.ofNat (cs.length + 5)), rv ar, iv i2, iv r2, iv (Int32.ofNat (cs.length + 3)), iv 0]) rfl (XS.aloadN S380.here hx rfl (hb hby own_d22_43) rfl rfl (XS.iinc S380.here hx rfl (hb hby own_d22_44) rfl (l' := #[iv i2, iv (Int32.ofNat (cs.length + 5)), rv ar, iv i2, iv r2, iv ((Int32.ofNat (cs.length + 3)) + (-1 : Int32)), iv 0]) rfl q)))) ?_
  show G T380 (mkF m 47 #[iv i2, iv (Int32.ofNat (cs.length + 5)), rv ar, iv i2, iv r2, iv ((Int32.ofNat (cs.length + 3)) + (-1 : Int32)), iv 0] [(.ref ar)])
  rw [show (Int32.ofNat (cs.length + 3)) + (-1 : Int32) = Int32.ofNat (cs.length + 2) from own_dec (cs.length + 2)]
  show G T380 (mkF m 47 #[iv i2, iv (Int32.ofNat (cs.length + 5)), rv ar, iv i2, iv r2, iv (Int32.ofNat (cs.length + 2)), iv 0] [(.ref ar)])
  refine hG.st (fun _ q => XS.iload S380.here hx rfl (hb hby own_d22_47) rfl q) ?_
  show G T380 (mkF m 49 #[iv i2, iv (Int32.ofNat (cs.length + 5)), rv ar, iv i2, iv r2, iv (Int32.ofNat (cs.length + 2)), iv 0] [(.int (Int32.ofNat (cs.length + 2))), (.ref ar)])
  refine Own.Sit.getS hG S380 hx (host := "") (Or.inl (hW 159 _ rfl)) Via.refl (Sd1.ext S380.old) rfl (hb hby own_d22_49) (fun T381 S381 => ?_)
  refine hG.st (fun _ q => XS.iload S381.here hx rfl (hb hby own_d22_52) rfl q) ?_
  show G T381 (mkF m 54 #[iv i2, iv (Int32.ofNat (cs.length + 5)), rv ar, iv i2, iv r2, iv (Int32.ofNat (cs.length + 2)), iv 0] [(.int r2), (.ref d1), (.int (Int32.ofNat (cs.length + 2))), (.ref ar)])
  have V382 := Ad1.ext S381.old
  have hj383 : ¬ r2 < 0 ∧ r2 < 100 := ⟨by rw [Int32.lt_iff_toInt_lt, hr2, show (0 : Int32).toInt = 0 from rfl]; omega, by rw [Int32.lt_iff_toInt_lt, hr2, show (100 : Int32).toInt = 100 from rfl]; omega⟩
  refine Own.Sit.baload hG S381 hx V382 hj383 (own_ones_at hj383) rfl rfl (hb hby own_d22_54) ?_
  show G T381 (mkF m 55 #[iv i2, iv (Int32.ofNat (cs.length + 5)), rv ar, iv i2, iv r2, iv (Int32.ofNat (cs.length + 2)), iv 0] [(.int ((48 : Int32) + (r2 % (10 : Int32)))), (.int (Int32.ofNat (cs.length + 2))), (.ref ar)])
  refine Own.Sit.stB hG S381 hx V380 g_r (Own.Safe.size S381.warm V380 (hW 6 _ rfl) (own_sz16 hw)) (own_idx (by omega)) (cs.length + 2) (own_tn (by omega)) (by (try simp only [List.length_set]); rw [own_bufl (by omega)]; omega) rfl rfl (hb hby own_d22_55) (fun T384 h384 S384 J384 V384 => ?_)
  refine hG.st (fun _ q => XS.aloadN S384.here hx rfl (hb hby own_d22_56) rfl rfl (XS.iinc S384.here hx rfl (hb hby own_d22_57) rfl (l' := #[iv i2, iv (Int32.ofNat (cs.length + 5)), rv ar, iv i2, iv r2, iv ((Int32.ofNat (cs.length + 2)) + (-1 : Int32)), iv 0]) rfl q)) ?_
  show G T384 (mkF m 60 #[iv i2, iv (Int32.ofNat (cs.length + 5)), rv ar, iv i2, iv r2, iv ((Int32.ofNat (cs.length + 2)) + (-1 : Int32)), iv 0] [(.ref ar)])
  rw [show (Int32.ofNat (cs.length + 2)) + (-1 : Int32) = Int32.ofNat (cs.length + 1) from own_dec (cs.length + 1)]
  show G T384 (mkF m 60 #[iv i2, iv (Int32.ofNat (cs.length + 5)), rv ar, iv i2, iv r2, iv (Int32.ofNat (cs.length + 1)), iv 0] [(.ref ar)])
  refine hG.st (fun _ q => XS.iload S384.here hx rfl (hb hby own_d22_60) rfl q) ?_
  show G T384 (mkF m 62 #[iv i2, iv (Int32.ofNat (cs.length + 5)), rv ar, iv i2, iv r2, iv (Int32.ofNat (cs.length + 1)), iv 0] [(.int (Int32.ofNat (cs.length + 1))), (.ref ar)])
  refine Own.Sit.getS hG S384 hx (host := "") (Or.inl (hW 221 _ rfl)) Via.refl (Sd2.ext S384.old) rfl (hb hby own_d22_62) (fun T385 S385 => ?_)
  refine hG.st (fun _ q => XS.iload S385.here hx rfl (hb hby own_d22_65) rfl q) ?_
  show G T385 (mkF m 67 #[iv i2, iv (Int32.ofNat (cs.length + 5)), rv ar, iv i2, iv r2, iv (Int32.ofNat (cs.length + 1)), iv 0] [(.int r2), (.ref d2), (.int (Int32.ofNat (cs.length + 1))), (.ref ar)])
  have V386 := Ad2.ext S385.old
  have hj387 : ¬ r2 < 0 ∧ r2 < 100 := ⟨by rw [Int32.lt_iff_toInt_lt, hr2, show (0 : Int32).toInt = 0 from rfl]; omega, by rw [Int32.lt_iff_toInt_lt, hr2, show (100 : Int32).toInt = 100 from rfl]; omega⟩
  refine Own.Sit.baload hG S385 hx V386 hj387 (own_tens_at hj387) rfl rfl (hb hby own_d22_67) ?_
  show G T385 (mkF m 68 #[iv i2, iv (Int32.ofNat (cs.length + 5)), rv ar, iv i2, iv r2, iv (Int32.ofNat (cs.length + 1)), iv 0] [(.int ((48 : Int32) + (r2 / (10 : Int32)))), (.int (Int32.ofNat (cs.length + 1))), (.ref ar)])
  refine Own.Sit.stB hG S385 hx V384 g_r (Own.Safe.size S385.warm V384 (hW 6 _ rfl) (own_sz16 hw)) (own_idx (by omega)) (cs.length + 1) (own_tn (by omega)) (by (try simp only [List.length_set]); rw [own_bufl (by omega)]; omega) rfl rfl (hb hby own_d22_68) (fun T388 h388 S388 J388 V388 => ?_)
  refine hG.st (fun _ q => XS.goto S388.here hx rfl (pc0 := 69) (pc' := 22) rfl (hb hby own_d22_69) (by decide) (by decide) (XS.iloadN S388.here hx rfl (hb hby own_d22_22) rfl (XS.bipush S388.here hx rfl (hb hby own_d22_23) (XS.icmpYes S388.here hx rfl (pc0 := 25) (pc' := 72) rfl (hb hby own_d22_25) rfl (tlt ((by rw [Int32.lt_iff_toInt_lt, hi2, show (-100 : Int32).toInt = -100 from by decide]; omega) : (-100 : Int32) < i2)).2.2.1 (by decide) (by decide) (XS.aloadN S388.here hx rfl (hb hby own_d22_72) rfl rfl (XS.iinc S388.here hx rfl (hb hby own_d22_73) rfl (l' := #[iv i2, iv (Int32.ofNat (cs.length + 5)), rv ar, iv i2, iv r2, iv ((Int32.ofNat (cs.length + 1)) + (-1 : Int32)), iv 0]) rfl q)))))) ?_
  show G T388 (mkF m 76 #[iv i2, iv (Int32.ofNat (cs.length + 5)), rv ar, iv i2, iv r2, iv ((Int32.ofNat (cs.length + 1)) + (-1 : Int32)), iv 0] [(.ref ar)])
  rw [show (Int32.ofNat (cs.length + 1)) + (-1 : Int32) = Int32.ofNat (cs.length + 0) from own_dec (cs.length + 0)]
  show G T388 (mkF m 76 #[iv i2, iv (Int32.ofNat (cs.length + 5)), rv ar, iv i2, iv r2, iv (Int32.ofNat (cs.length + 0)), iv 0] [(.ref ar)])
  refine hG.st (fun _ q => XS.iload S388.here hx rfl (hb hby own_d22_76) rfl q) ?_
  show G T388 (mkF m 78 #[iv i2, iv (Int32.ofNat (cs.length + 5)), rv ar, iv i2, iv r2, iv (Int32.ofNat (cs.length + 0)), iv 0] [(.int (Int32.ofNat (cs.length + 0))), (.ref ar)])
  refine Own.Sit.getS hG S388 hx (host := "") (Or.inl (hW 159 _ rfl)) Via.refl (Sd1.ext S388.old) rfl (hb hby own_d22_78) (fun T389 S389 => ?_)
  refine hG.st (fun _ q => XS.iloadN S389.here hx rfl (hb hby own_d22_81) rfl (XS.ineg S389.here hx rfl (hb hby own_d22_82) rfl q)) ?_
  show G T389 (mkF m 83 #[iv i2, iv (Int32.ofNat (cs.length + 5)), rv ar, iv i2, iv r2, iv (Int32.ofNat (cs.length + 0)), iv 0] [(.int (-i2)), (.ref d1), (.int (Int32.ofNat (cs.length + 0))), (.ref ar)])
  have V390 := Ad1.ext S389.old
  have hj391 : ¬ (-i2) < 0 ∧ (-i2) < 100 := ⟨by rw [Int32.lt_iff_toInt_lt, own_neg ⟨by omega, by omega⟩, show (0 : Int32).toInt = 0 from rfl]; omega, by rw [Int32.lt_iff_toInt_lt, own_neg ⟨by omega, by omega⟩, show (100 : Int32).toInt = 100 from rfl]; omega⟩
  refine Own.Sit.baload hG S389 hx V390 hj391 (own_ones_at hj391) rfl rfl (hb hby own_d22_83) ?_
  show G T389 (mkF m 84 #[iv i2, iv (Int32.ofNat (cs.length + 5)), rv ar, iv i2, iv r2, iv (Int32.ofNat (cs.length + 0)), iv 0] [(.int ((48 : Int32) + ((-i2) % (10 : Int32)))), (.int (Int32.ofNat (cs.length + 0))), (.ref ar)])
  refine Own.Sit.stB hG S389 hx V388 g_r (Own.Safe.size S389.warm V388 (hW 6 _ rfl) (own_sz16 hw)) (own_idx (by omega)) (cs.length + 0) (own_tn (by omega)) (by (try simp only [List.length_set]); rw [own_bufl (by omega)]; omega) rfl rfl (hb hby own_d22_84) (fun T392 h392 S392 J392 V392 => ?_)
  refine hG.st (fun _ q => XS.iloadN S392.here hx rfl (hb hby own_d22_85) rfl (XS.bipush S392.here hx rfl (hb hby own_d22_86) (XS.icmpYes S392.here hx rfl (pc0 := 88) (pc' := 104) rfl (hb hby own_d22_88) rfl (flt ((by rw [Int32.lt_iff_toInt_lt, hi2, show (-9 : Int32).toInt = -9 from by decide]; omega) : ¬ (i2 < (-9 : Int32)))).2.1 (by decide) (by decide) (XS.iload S392.here hx rfl (hb hby own_d22_104) rfl (XS.ifYes S392.here hx rfl (pc0 := 106) (pc' := 118) rfl (hb hby own_d22_106) rfl ((if0 _ _).trans (teq (by decide : (0 : Int32) = (0 : Int32))).1) (by decide) (by decide) (XS.iload S392.here hx rfl (hb hby own_d22_118) rfl q)))))) ?_
  show G T392 (mkF m 120 #[iv i2, iv (Int32.ofNat (cs.length + 5)), rv ar, iv i2, iv r2, iv (Int32.ofNat (cs.length + 0)), iv 0] [(.int (Int32.ofNat (cs.length + 0)))])
  have pp := own_p (p := pt) (by omega)
  have xx393 : (-i2).toInt = -(-(((pt.toInt / 100) / 100))) := by rw [own_neg (x := i2) ⟨by omega, by omega⟩, hi2]
  have ee393 : ((48 : Int32) + ((-i2) % (10 : Int32))) = (48 : Int32) + (pt / 10000) := congrArg (fun z => (48 : Int32) + z) (Int32.toInt_inj.mp (by rw [(own_t10 (x := (-i2)) (by omega)).1, pp.2.2.2.2]; omega))
  have xx394 : r2.toInt = (pt.toInt / 100) % 100 := by rw [hr2]
  have ee394 : ((48 : Int32) + (r2 / (10 : Int32))) = (48 : Int32) + (pt / 1000 % 10) := congrArg (fun z => (48 : Int32) + z) (Int32.toInt_inj.mp (by rw [(own_t10 (x := r2) (by omega)).2, pp.2.2.2.1]; omega))
  have xx395 : r2.toInt = (pt.toInt / 100) % 100 := by rw [hr2]
  have ee395 : ((48 : Int32) + (r2 % (10 : Int32))) = (48 : Int32) + (pt / 100 % 10) := congrArg (fun z => (48 : Int32) + z) (Int32.toInt_inj.mp (by rw [(own_t10 (x := r2) (by omega)).1, pp.2.2.1]; omega))
  have xx396 : r1.toInt = pt.toInt % 100 := by rw [hr1]
  have ee396 : ((48 : Int32) + (r1 / (10 : Int32))) = (48 : Int32) + (pt / 10 % 10) := congrArg (fun z => (48 : Int32) + z) (Int32.toInt_inj.mp (by rw [(own_t10 (x := r1) (by omega)).2, pp.2.1]; omega))
  have xx397 : r1.toInt = pt.toInt % 100 := by rw [hr1]
  have ee397 : ((48 : Int32) + (r1 % (10 : Int32))) = (48 : Int32) + (pt % 10) := congrArg (fun z => (48 : Int32) + z) (Int32.toInt_inj.mp (by rw [(own_t10 (x := r1) (by omega)).1, pp.1]; omega))
  have Af : Arv Z h392 ar kv .byte (16 : Int32) (own_buf (cs ++ own_dig5 pt)) (.int 0) := by
    have q := V392
    rw [own_lst5 _ _ _ _ _ hsum, ee393, ee394, ee395, ee396, ee397] at q
    exact q
  have J398 : Own.Stp Z consts_1 vm0 h0 vm0 h380 [ar] := Own.Stp.trans J376 J380 (allS (List.mem_of_getElem? (i := 0) rfl) (all0)) (allS (Or.inl (List.mem_of_getElem? (i := 0) rfl)) all0)
  have J399 : Own.Stp Z consts_1 vm0 h0 vm0 h384 [ar] := Own.Stp.trans J398 J384 (allS (List.mem_of_getElem? (i := 0) rfl) (all0)) (allS (Or.inl (List.mem_of_getElem? (i := 0) rfl)) all0)
  have J400 : Own.Stp Z consts_1 vm0 h0 vm0 h388 [ar] := Own.Stp.trans J399 J388 (allS (List.mem_of_getElem? (i := 0) rfl) (all0)) (allS (Or.inl (List.mem_of_getElem? (i := 0) rfl)) all0)
  have J401 : Own.Stp Z consts_1 vm0 h0 vm0 h392 [ar] := Own.Stp.trans J400 J392 (allS (List.mem_of_getElem? (i := 0) rfl) (all0)) (allS (Or.inl (List.mem_of_getElem? (i := 0) rfl)) all0)
  exact Own.Sit.retO hR S392 hx hret rfl (Or.inl ⟨rfl, Or.inl rfl, _, rfl⟩) (hb hby own_d22_120) (by decide) (by decide) ⟨J401.1, ⟨_, rfl⟩, Af⟩
theorem own_ef_own_api5 (m : MethodId) (b : Addr) (pt : Int32) : entryFrame m #[(.ref b), (.int pt)] 4 = mkF m 0 #[rv b, iv pt, .unset, .unset] [] := by first | (simp [entryFrame, mkF, argsToLocals, Value.category]; done) | rfl
set_option maxRecDepth 65536 in
set_option maxHeartbeats 40000000 in
theorem own_api5 (l : Launch) (Z : State) (a0 : Array Value) (H : own_Wld Z a0) {cw : List Jvm.Cond} (b : Addr) (pt : Int32) (ar : Addr) (cs : List Int32) (d1 d2 : Addr) (h0 : Heap) (O0 : Ext Z.heap h0) {kv : ClassId} (SB : own_SB Z h0 b ar kv cs) (hsum : cs.length + 5 ≤ 16) (g_b : Z.heap.size ≤ b) (g_r : Z.heap.size ≤ ar) {k1 k2 : ClassId} (DG : own_Dig Z d1 d2 k1 k2) (hp : 10000 ≤ pt.toInt ∧ pt.toInt ≤ 65535) :
    Own.Con l Z consts_1 (⟨"java/lang/AbstractStringBuilder", "append", "(I)Ljava/lang/AbstractStringBuilder;"⟩ : MethodName) jdk_68_method_32_code 4 (some (.object "java/lang/AbstractStringBuilder")) cw ({ frames := 1, cells := 0, slots := 0, locals := 18 } : Room) #[(.ref b), (.int pt)] h0 (fun v h => Keep h0 h [b, ar] ∧ v = some (.ref b) ∧ own_SB Z h b ar kv (cs ++ own_dig5 pt)) := by
  have hw := H.1
  have hW := fun (i : Nat) (w : Jvm.Cond) (e : tables_1[i]? = some w) => hw w (List.mem_of_getElem? e)
  have hCm := H.2.1
  have hSi := H.2.2.1
  have hEL := H.2.2.2
  have hWs : ∀ d ∈ StrChars.Road.words, d.before a0 Z = true := fun d hd => hw d (own_wbackV d hd)
  have hWl : ∀ d ∈ StrChars.Road.wordsLen, d.before a0 Z = true := fun d hd => hw d (own_wlenW d hd)
  have hSA : ∀ d ∈ Bundle.stringAtoms, d.before a0 Z = true := fun d hd => hw d (own_wSA d hd)
  refine Own.Con.of own_pn4294e0 hEL O0 ?_
  intro p e s m below meth c T0 G vm0 hx hby hml hret hnm hG hR S0
  have hz : ∀ L : Array Slot, L.size = 4 → L.size = c.maxLocals := fun L q => q.trans hml.symm
  rw [own_ef_own_api5]
  show G T0 (mkF m 0 #[rv b, iv pt, .unset, .unset] [])
  obtain ⟨E_b402, Fv_b402, Fc_b402, Fn_b402, A_r402⟩ := id SB
  refine hG.st (fun _ q => XS.aloadN S0.here hx rfl (hb hby own_d23_0) rfl rfl q) ?_
  show G T0 (mkF m 1 #[rv b, iv pt, .unset, .unset] [(.ref b)])
  refine Own.Sit.getF hG S0 hx (host := "") (Or.inl (hW 111 _ rfl)) Via.refl Fn_b402 rfl rfl (hb hby own_d23_1) (fun T403 S403 => ?_)
  refine hG.st (fun _ q => XS.istoreN S403.here hx rfl (hb hby own_d23_4) rfl (l' := #[rv b, iv pt, iv (Int32.ofNat cs.length), .unset]) rfl (XS.iloadN S403.here hx rfl (hb hby own_d23_5) rfl (XS.iloadN S403.here hx rfl (hb hby own_d23_6) rfl q))) ?_
  show G T403 (mkF m 7 #[rv b, iv pt, iv (Int32.ofNat cs.length), .unset] [(.int pt), (.int (Int32.ofNat cs.length))])
  refine Own.Sit.callS hG S403 hx hEL (as := [(.int pt)]) (hW 147 _ rfl) (hW 148 _ rfl) (hW 149 _ rfl) (hW 150 _ rfl) (by decide) (own_ssz5 l Z a0 H pt h0 S403.old hp) own_pd89c469 rfl rfl (hz _ rfl) (rest := [(.int (Int32.ofNat cs.length))]) rfl (W := 1) (Own.hw0 rfl rfl) (hb hby own_d23_7) (by decide) (by decide) (by decide) (by decide) (fun v404 vm404 T404 h404 S404 C404 q404 => ?_)
  obtain ⟨K404, rfl⟩ := q404
  have J404 : Own.Stp Z consts_1 vm0 h0 vm404 h404 [] := ⟨K404, C404⟩
  refine hG.st (fun _ q => XS.iadd S404.here hx rfl (hb hby own_d23_10) rfl q) ?_
  show G T404 (mkF m 11 #[rv b, iv pt, iv (Int32.ofNat cs.length), .unset] [(.int ((Int32.ofNat cs.length) + (5 : Int32)))])
  rw [show (Int32.ofNat cs.length) + (5 : Int32) = Int32.ofNat (cs.length + 5) from own_addn cs.length 5]
  show G T404 (mkF m 11 #[rv b, iv pt, iv (Int32.ofNat cs.length), .unset] [(.int (Int32.ofNat (cs.length + 5)))])
  refine hG.st (fun _ q => XS.istoreN S404.here hx rfl (hb hby own_d23_11) rfl (l' := #[rv b, iv pt, iv (Int32.ofNat cs.length), iv (Int32.ofNat (cs.length + 5))]) rfl (XS.aloadN S404.here hx rfl (hb hby own_d23_12) rfl rfl (XS.iloadN S404.here hx rfl (hb hby own_d23_13) rfl q))) ?_
  show G T404 (mkF m 14 #[rv b, iv pt, iv (Int32.ofNat cs.length), iv (Int32.ofNat (cs.length + 5))] [(.int (Int32.ofNat (cs.length + 5))), (.ref b)])
  have E405 := J404.exa E_b402
  have F406 := J404.fld Fv_b402 nin0
  have F407 := J404.fld Fc_b402 nin0
  have F408 := J404.fld Fn_b402 nin0
  have V409 := J404.arv A_r402 nin0
  have SB410 : own_SB Z h404 b ar kv cs := ⟨E405, F406, F407, F408, V409⟩
  refine Own.Sit.callPS hG S404 hx hEL (as := [(.int (Int32.ofNat (cs.length + 5)))]) (hW 113 _ rfl) (hW 115 _ rfl) (hW 116 _ rfl) (hW 114 _ rfl) (hW 88 _ rfl) (hW 117 _ rfl) (by decide) E405 (own_ens l Z a0 H b (Int32.ofNat (cs.length + 5)) ar cs h404 S404.old SB410 (own_ec hsum)) own_pdc76b35 rfl rfl (hz _ rfl) (rest := []) rfl (W := 0) (Own.hw0 rfl rfl) (hb hby own_d23_14) (by decide) (by decide) (by decide) (by decide) (fun v411 vm411 T411 h411 S411 C411 q411 => ?_)
  obtain ⟨K411, rfl⟩ := q411
  have J411 : Own.Stp Z consts_1 vm404 h404 vm411 h411 [] := ⟨K411, C411⟩
  refine hG.st (fun _ q => XS.aloadN S411.here hx rfl (hb hby own_d23_17) rfl rfl q) ?_
  show G T411 (mkF m 18 #[rv b, iv pt, iv (Int32.ofNat cs.length), iv (Int32.ofNat (cs.length + 5))] [(.ref b)])
  have E412 := J411.exa E405
  have F413 := J411.fld F406 nin0
  have F414 := J411.fld F407 nin0
  have F415 := J411.fld F408 nin0
  have V416 := J411.arv V409 nin0
  have SB417 : own_SB Z h411 b ar kv cs := ⟨E412, F413, F414, F415, V416⟩
  refine Own.Sit.callV hG S411 hx hEL (as := []) (hW 151 _ rfl) (hW 152 _ rfl) (hW 154 _ rfl) (hW 153 _ rfl) (hW 88 _ rfl) (hW 155 _ rfl) (by decide) E412 (own_alat l Z a0 H b ar cs h411 S411.old SB417) own_pdbfe1a5 rfl rfl (hz _ rfl) (rest := []) rfl (W := 0) (Own.hw0 rfl rfl) (hb hby own_d23_18) (by decide) (by decide) (by decide) (by decide) (fun v418 vm418 T418 h418 S418 C418 q418 => ?_)
  obtain ⟨K418, rfl⟩ := q418
  have J418 : Own.Stp Z consts_1 vm411 h411 vm418 h418 [] := ⟨K418, C418⟩
  refine hG.st (fun _ q => XS.ifNo S418.here hx rfl (hb hby own_d23_21) rfl ((if0 _ _).trans (feq (by decide : ¬ ((1 : Int32) = (0 : Int32)))).1) (XS.iloadN S418.here hx rfl (hb hby own_d23_24) rfl (XS.iloadN S418.here hx rfl (hb hby own_d23_25) rfl (XS.aloadN S418.here hx rfl (hb hby own_d23_26) rfl rfl q)))) ?_
  show G T418 (mkF m 27 #[rv b, iv pt, iv (Int32.ofNat cs.length), iv (Int32.ofNat (cs.length + 5))] [(.ref b), (.int (Int32.ofNat (cs.length + 5))), (.int pt)])
  have F419 := J418.fld F413 nin0
  refine Own.Sit.getF hG S418 hx (host := "") (Or.inl (hW 92 _ rfl)) Via.refl F419 rfl rfl (hb hby own_d23_27) (fun T420 S420 => ?_)
  have V421 := J418.arv V416 nin0
  show G T420 (mkF m 30 #[rv b, iv pt, iv (Int32.ofNat cs.length), iv (Int32.ofNat (cs.length + 5))] [(.ref ar), (.int (Int32.ofNat (cs.length + 5))), (.int pt)])
  refine Own.Sit.callS hG S420 hx hEL (as := [(.int pt), (.int (Int32.ofNat (cs.length + 5))), (.ref ar)]) (hW 156 _ rfl) (hW 157 _ rfl) (hW 149 _ rfl) (hW 158 _ rfl) (by decide) (own_gch5 l Z a0 H pt ar cs d1 d2 h418 S420.old V421 hsum g_r DG hp) own_pdca675b rfl rfl (hz _ rfl) (rest := []) rfl (W := 0) (Own.hw0 rfl rfl) (hb hby own_d23_30) (by decide) (by decide) (by decide) (by decide) (fun v422 vm422 T422 h422 S422 C422 q422 => ?_)
  obtain ⟨K422, ⟨r422, rfl⟩, A422⟩ := q422
  have J422 : Own.Stp Z consts_1 vm418 h418 vm422 h422 [ar] := ⟨K422, C422⟩
  refine hG.st (fun _ q => XS.pop S422.here hx rfl (hb hby own_d23_33) rfl rfl (XS.goto S422.here hx rfl (pc0 := 34) (pc' := 48) rfl (hb hby own_d23_34) (by decide) (by decide) (XS.aloadN S422.here hx rfl (hb hby own_d23_48) rfl rfl (XS.iloadN S422.here hx rfl (hb hby own_d23_49) rfl q)))) ?_
  show G T422 (mkF m 50 #[rv b, iv pt, iv (Int32.ofNat cs.length), iv (Int32.ofNat (cs.length + 5))] [(.int (Int32.ofNat (cs.length + 5))), (.ref b)])
  have J423 : Own.Stp Z consts_1 vm411 h411 vm422 h422 [ar] := Own.Stp.trans J418 J422 (all0) (allS (Or.inl (List.mem_of_getElem? (i := 0) rfl)) all0)
  have J425 : Own.Stp Z consts_1 vm0 h0 vm411 h411 [] := Own.Stp.trans J404 J411 (all0) all0
  have J426 : Own.Stp Z consts_1 vm0 h0 vm418 h418 [] := Own.Stp.trans J425 J418 (all0) all0
  have J427 : Own.Stp Z consts_1 vm0 h0 vm422 h422 [ar] := Own.Stp.trans J426 J422 (all0) (allS (Or.inl (List.mem_of_getElem? (i := 0) rfl)) all0)
  have F424 := J423.fld F415 (ninS (Exa.neArv (J427.exa E_b402) A422 (hW 79 _ rfl)) nin0)
  have E428 := J423.exa E412
  have F430 := J422.fld F419 (ninS (Exa.neArv (J427.exa E_b402) A422 (hW 79 _ rfl)) nin0)
  have F431 := J423.fld F414 (ninS (Exa.neArv (J427.exa E_b402) A422 (hW 79 _ rfl)) nin0)
  refine Own.Sit.putF hG S422 hx (host := "") (Or.inl (hW 111 _ rfl)) Via.refl F424 E428 (Or.inl (hW 112 _ rfl)) (hW 79 _ rfl) (ty := .int) (by decide) rfl rfl g_b (Safe.exa S422.warm.alike E428 (by decide) (by decide)) rfl rfl (hb hby own_d23_50) (fun T429 h429 S429 J429 W429 F429 => ?_)
  have F432 := Fld.other W429 F430 (Or.inr (slot_ne (Or.inl (hW 93 _ rfl)) (Or.inl (hW 112 _ rfl)) (by decide) (t := (.array .byte)) (by decide) (t' := .int) (by decide)))
  have F433 := Fld.other W429 F431 (Or.inr (slot_ne (Or.inl (hW 95 _ rfl)) (Or.inl (hW 112 _ rfl)) (by decide) (t := .byte) (by decide) (t' := .int) (by decide)))
  refine hG.st (fun _ q => XS.aloadN S429.here hx rfl (hb hby own_d23_53) rfl rfl q) ?_
  show G T429 (mkF m 54 #[rv b, iv pt, iv (Int32.ofNat cs.length), iv (Int32.ofNat (cs.length + 5))] [(.ref b)])
  have J434 : Own.Stp Z consts_1 vm0 h0 vm422 h429 [ar, b] := Own.Stp.trans J427 J429 (allS (List.mem_of_getElem? (i := 0) rfl) (all0)) (allS (Or.inl (List.mem_of_getElem? (i := 1) rfl)) all0)
  have E435 := J429.exa E428
  have V436 := J429.arv A422 (ninS (Ne.symm (Exa.neArv (J427.exa E_b402) A422 (hW 79 _ rfl))) nin0)
  exact Own.Sit.retO hR S429 hx hret rfl (Or.inr (Or.inr (Or.inr (Or.inr ⟨rfl, rfl, rfl⟩)))) (hb hby own_d23_54) (by decide) (by decide) ⟨(Own.keep_mono J434.1 (allS (List.mem_of_getElem? (i := 1) rfl) (allS (List.mem_of_getElem? (i := 0) rfl) all0))), rfl, E435, F432, F433, (by rw [List.length_append]; exact F429), V436⟩
theorem own_ef_own_bpi5 (m : MethodId) (b : Addr) (pt : Int32) : entryFrame m #[(.ref b), (.int pt)] 2 = mkF m 0 #[rv b, iv pt] [] := by first | (simp [entryFrame, mkF, argsToLocals, Value.category]; done) | rfl
set_option maxRecDepth 65536 in
set_option maxHeartbeats 40000000 in
theorem own_bpi5 (l : Launch) (Z : State) (a0 : Array Value) (H : own_Wld Z a0) {cw : List Jvm.Cond} (b : Addr) (pt : Int32) (ar : Addr) (cs : List Int32) (d1 d2 : Addr) (h0 : Heap) (O0 : Ext Z.heap h0) {kv : ClassId} (SB : own_SB Z h0 b ar kv cs) (hsum : cs.length + 5 ≤ 16) (g_b : Z.heap.size ≤ b) (g_r : Z.heap.size ≤ ar) {k1 k2 : ClassId} (DG : own_Dig Z d1 d2 k1 k2) (hp : 10000 ≤ pt.toInt ∧ pt.toInt ≤ 65535) :
    Own.Con l Z consts_1 (⟨"java/lang/StringBuilder", "append", "(I)Ljava/lang/StringBuilder;"⟩ : MethodName) jdk_67_method_15_code 2 (some (.object "java/lang/StringBuilder")) cw ({ frames := 2, cells := 0, slots := 0, locals := 33 } : Room) #[(.ref b), (.int pt)] h0 (fun v h => Keep h0 h [b, ar] ∧ v = some (.ref b) ∧ own_SB Z h b ar kv (cs ++ own_dig5 pt)) := by
  have hw := H.1
  have hW := fun (i : Nat) (w : Jvm.Cond) (e : tables_1[i]? = some w) => hw w (List.mem_of_getElem? e)
  have hCm := H.2.1
  have hSi := H.2.2.1
  have hEL := H.2.2.2
  have hWs : ∀ d ∈ StrChars.Road.words, d.before a0 Z = true := fun d hd => hw d (own_wbackV d hd)
  have hWl : ∀ d ∈ StrChars.Road.wordsLen, d.before a0 Z = true := fun d hd => hw d (own_wlenW d hd)
  have hSA : ∀ d ∈ Bundle.stringAtoms, d.before a0 Z = true := fun d hd => hw d (own_wSA d hd)
  refine Own.Con.of own_pn6aade2 hEL O0 ?_
  intro p e s m below meth c T0 G vm0 hx hby hml hret hnm hG hR S0
  have hz : ∀ L : Array Slot, L.size = 2 → L.size = c.maxLocals := fun L q => q.trans hml.symm
  rw [own_ef_own_bpi5]
  show G T0 (mkF m 0 #[rv b, iv pt] [])
  obtain ⟨E_b437, Fv_b437, Fc_b437, Fn_b437, A_r437⟩ := id SB
  refine hG.st (fun _ q => XS.aloadN S0.here hx rfl (hb hby own_d24_0) rfl rfl (XS.iloadN S0.here hx rfl (hb hby own_d24_1) rfl q)) ?_
  show G T0 (mkF m 2 #[rv b, iv pt] [(.int pt), (.ref b)])
  have SB438 : own_SB Z h0 b ar kv cs := ⟨E_b437, Fv_b437, Fc_b437, Fn_b437, A_r437⟩
  refine Own.Sit.callU hG S0 hx hEL (as := [(.int pt)]) (hW 143 _ rfl) (Own.same_of (by decide) (hW 144 _ rfl) (hW 116 _ rfl) rfl) (hW 144 _ rfl) (hW 103 _ rfl) (by decide) (hW 88 _ rfl) (hW 146 _ rfl) E_b437 (own_api5 l Z a0 H b pt ar cs d1 d2 h0 S0.old SB438 hsum g_b g_r DG hp) own_pd757924 rfl rfl (hz _ rfl) (rest := []) rfl (W := 0) (Own.hw0 rfl rfl) (hb hby own_d24_2) (by decide) (by decide) (by decide) (by decide) (fun v439 vm439 T439 h439 S439 C439 q439 => ?_)
  obtain ⟨K439, rfl, SB439⟩ := q439
  have J439 : Own.Stp Z consts_1 vm0 h0 vm439 h439 [b, ar] := ⟨K439, C439⟩
  obtain ⟨E_b440, Fv_b440, Fc_b440, Fn_b440, A_r440⟩ := id SB439
  refine hG.st (fun _ q => XS.pop S439.here hx rfl (hb hby own_d24_5) rfl rfl (XS.aloadN S439.here hx rfl (hb hby own_d24_6) rfl rfl q)) ?_
  show G T439 (mkF m 7 #[rv b, iv pt] [(.ref b)])
  exact Own.Sit.retO hR S439 hx hret rfl (Or.inr (Or.inr (Or.inr (Or.inr ⟨rfl, rfl, rfl⟩)))) (hb hby own_d24_7) (by decide) (by decide) ⟨J439.1, rfl, E_b440, Fv_b440, Fc_b440, Fn_b440, A_r440⟩
theorem own_hy {r : Int32} {P : Prop} (h : (¬ r < 0 ∧ P) ∨ (r < 0 ∧ ¬ P)) (q : ¬ r < 0) : P := h.elim (fun z => z.2) (fun z => absurd z.1 q)
theorem own_hn {r : Int32} {P : Prop} (h : (¬ r < 0 ∧ P) ∨ (r < 0 ∧ ¬ P)) (q : r < 0) : ¬ P := h.elim (fun z => absurd q z.1) (fun z => z.2)
theorem own_pna237ec : plainFor (⟨"java/lang/String", "toString", "()Ljava/lang/String;"⟩ : MethodName) = true := by first | exact plainFor_of_name (by first | (simp [plainName, overriddenIn]; done) | decide +kernel) | decide +kernel
theorem own_d25_0 : decode jdk_42_method_126_code 0 = .ok (.aload_n 0, 1) := by decide +kernel
theorem own_d25_1 : decode jdk_42_method_126_code 1 = .ok (.areturn, 1) := by decide +kernel
theorem own_ef_own_tos (m : MethodId) (x : Addr) : entryFrame m #[(.ref x)] 1 = mkF m 0 #[rv x] [] := by first | (simp [entryFrame, mkF, argsToLocals, Value.category]; done) | rfl
set_option maxRecDepth 65536 in
set_option maxHeartbeats 40000000 in
theorem own_tos (l : Launch) (Z : State) (a0 : Array Value) (H : own_Wld Z a0) {cw : List Jvm.Cond} (x : Addr) (h0 : Heap) (O0 : Ext Z.heap h0) :
    Own.Con l Z consts_1 (⟨"java/lang/String", "toString", "()Ljava/lang/String;"⟩ : MethodName) jdk_42_method_126_code 1 (some (.object "java/lang/String")) cw ({ frames := 0, cells := 0, slots := 0, locals := 0 } : Room) #[(.ref x)] h0 (fun v h => Keep h0 h [] ∧ v = some (.ref x)) := by
  have hw := H.1
  have hW := fun (i : Nat) (w : Jvm.Cond) (e : tables_1[i]? = some w) => hw w (List.mem_of_getElem? e)
  have hCm := H.2.1
  have hSi := H.2.2.1
  have hEL := H.2.2.2
  have hWs : ∀ d ∈ StrChars.Road.words, d.before a0 Z = true := fun d hd => hw d (own_wbackV d hd)
  have hWl : ∀ d ∈ StrChars.Road.wordsLen, d.before a0 Z = true := fun d hd => hw d (own_wlenW d hd)
  have hSA : ∀ d ∈ Bundle.stringAtoms, d.before a0 Z = true := fun d hd => hw d (own_wSA d hd)
  refine Own.Con.of own_pna237ec hEL O0 ?_
  intro p e s m below meth c T0 G vm0 hx hby hml hret hnm hG hR S0
  have hz : ∀ L : Array Slot, L.size = 1 → L.size = c.maxLocals := fun L q => q.trans hml.symm
  rw [own_ef_own_tos]
  show G T0 (mkF m 0 #[rv x] [])
  refine hG.st (fun _ q => XS.aloadN S0.here hx rfl (hb hby own_d25_0) rfl rfl q) ?_
  show G T0 (mkF m 1 #[rv x] [(.ref x)])
  exact Own.Sit.retO hR S0 hx hret rfl (Or.inr (Or.inr (Or.inr (Or.inr ⟨rfl, rfl, rfl⟩)))) (hb hby own_d25_1) (by decide) (by decide) ⟨(Keep.refl _ _), rfl⟩
theorem own_pn901139 : plainFor (⟨"java/lang/StringLatin1", "indexOf", "([B[B)I"⟩ : MethodName) = true := by first | exact plainFor_of_name (by first | (simp [plainName, overriddenIn]; done) | decide +kernel) | decide +kernel
theorem own_d26_0 : decode jdk_43_method_24_code 0 = .ok (.aload_n 1, 1) := by decide +kernel
theorem own_d26_1 : decode jdk_43_method_24_code 1 = .ok (.arraylength, 1) := by decide +kernel
theorem own_d26_2 : decode jdk_43_method_24_code 2 = .ok (.ifCond .ne 5, 3) := by decide +kernel
theorem own_d26_7 : decode jdk_43_method_24_code 7 = .ok (.aload_n 0, 1) := by decide +kernel
theorem own_d26_8 : decode jdk_43_method_24_code 8 = .ok (.arraylength, 1) := by decide +kernel
theorem own_d26_9 : decode jdk_43_method_24_code 9 = .ok (.ifCond .ne 5, 3) := by decide +kernel
theorem own_d26_12 : decode jdk_43_method_24_code 12 = .ok (.iconst (-1), 1) := by decide +kernel
theorem own_d26_13 : decode jdk_43_method_24_code 13 = .ok (.ireturn, 1) := by decide +kernel
theorem own_ef_own_ixa0 (m : MethodId) (t : Addr) (u : Addr) : entryFrame m #[(.ref t), (.ref u)] 2 = mkF m 0 #[rv t, rv u] [] := by first | (simp [entryFrame, mkF, argsToLocals, Value.category]; done) | rfl
set_option maxRecDepth 65536 in
set_option maxHeartbeats 40000000 in
theorem own_ixa0 (l : Launch) (Z : State) (a0 : Array Value) (H : own_Wld Z a0) {cw : List Jvm.Cond} (t : Addr) (u : Addr) (h0 : Heap) (O0 : Ext Z.heap h0) {kt ku : ClassId} (A_t : Arv Z h0 t kt .byte (0 : Int32) [] (.int 0)) (A_u : Arv Z h0 u ku .byte (1 : Int32) [(.int 58)] (.int 0)) :
    Own.Con l Z consts_1 (⟨"java/lang/StringLatin1", "indexOf", "([B[B)I"⟩ : MethodName) jdk_43_method_24_code 2 (some .int) cw ({ frames := 1, cells := 0, slots := 0, locals := 40 } : Room) #[(.ref t), (.ref u)] h0 (fun v h => Keep h0 h [] ∧ ∃ r, v = some (.int r) ∧ ((¬ r < 0 ∧ (58 : Int32) ∈ ([] : List Int32)) ∨ (r < 0 ∧ ¬ (58 : Int32) ∈ ([] : List Int32)))) := by
  have hw := H.1
  have hW := fun (i : Nat) (w : Jvm.Cond) (e : tables_1[i]? = some w) => hw w (List.mem_of_getElem? e)
  have hCm := H.2.1
  have hSi := H.2.2.1
  have hEL := H.2.2.2
  have hWs : ∀ d ∈ StrChars.Road.words, d.before a0 Z = true := fun d hd => hw d (own_wbackV d hd)
  have hWl : ∀ d ∈ StrChars.Road.wordsLen, d.before a0 Z = true := fun d hd => hw d (own_wlenW d hd)
  have hSA : ∀ d ∈ Bundle.stringAtoms, d.before a0 Z = true := fun d hd => hw d (own_wSA d hd)
  refine Own.Con.of own_pn901139 hEL O0 ?_
  intro p e s m below meth c T0 G vm0 hx hby hml hret hnm hG hR S0
  have hz : ∀ L : Array Slot, L.size = 2 → L.size = c.maxLocals := fun L q => q.trans hml.symm
  rw [own_ef_own_ixa0]
  show G T0 (mkF m 0 #[rv t, rv u] [])
  refine hG.st (fun _ q => XS.aloadN S0.here hx rfl (hb hby own_d26_0) rfl rfl q) ?_
  show G T0 (mkF m 1 #[rv t, rv u] [(.ref u)])
  refine Own.Sit.arraylength hG S0 hx A_u rfl rfl (hb hby own_d26_1) ?_
  show G T0 (mkF m 2 #[rv t, rv u] [(.int 1)])
  refine hG.st (fun _ q => XS.ifYes S0.here hx rfl (pc0 := 2) (pc' := 7) rfl (hb hby own_d26_2) rfl ((if0 _ _).trans (feq (by decide : ¬ ((1 : Int32) = (0 : Int32)))).2) (by decide) (by decide) (XS.aloadN S0.here hx rfl (hb hby own_d26_7) rfl rfl q)) ?_
  show G T0 (mkF m 8 #[rv t, rv u] [(.ref t)])
  refine Own.Sit.arraylength hG S0 hx A_t rfl rfl (hb hby own_d26_8) ?_
  show G T0 (mkF m 9 #[rv t, rv u] [(.int 0)])
  refine hG.st (fun _ q => XS.ifNo S0.here hx rfl (hb hby own_d26_9) rfl ((if0 _ _).trans (teq (by decide : (0 : Int32) = (0 : Int32))).2) (XS.iconst S0.here hx rfl (hb hby own_d26_12) q)) ?_
  show G T0 (mkF m 13 #[rv t, rv u] [(.int (-1 : Int32))])
  exact Own.Sit.retO hR S0 hx hret rfl (Or.inl ⟨rfl, Or.inl rfl, _, rfl⟩) (hb hby own_d26_13) (by decide) (by decide) ⟨(Keep.refl _ _), _, rfl, Or.inr ⟨by decide, List.not_mem_nil⟩⟩
theorem own_pnfc072b : plainFor (⟨"java/lang/String", "indexOf", "(Ljava/lang/String;)I"⟩ : MethodName) = true := by first | exact plainFor_of_name (by first | (simp [plainName, overriddenIn]; done) | decide +kernel) | decide +kernel
theorem own_pd545b04 : parseMethodDescriptor "([B[B)I" = some ⟨[(.array .byte), (.array .byte)], some .int⟩ := by decide +kernel
theorem own_d27_0 : decode jdk_42_method_84_code 0 = .ok (.aload_n 0, 1) := by decide +kernel
theorem own_d27_1 : decode jdk_42_method_84_code 1 = .ok (.invokevirtual 335, 3) := by decide +kernel
theorem own_d27_4 : decode jdk_42_method_84_code 4 = .ok (.istore_n 2, 1) := by decide +kernel
theorem own_d27_5 : decode jdk_42_method_84_code 5 = .ok (.iload_n 2, 1) := by decide +kernel
theorem own_d27_6 : decode jdk_42_method_84_code 6 = .ok (.aload_n 1, 1) := by decide +kernel
theorem own_d27_7 : decode jdk_42_method_84_code 7 = .ok (.invokevirtual 335, 3) := by decide +kernel
theorem own_d27_10 : decode jdk_42_method_84_code 10 = .ok (.if_icmp .ne 36, 3) := by decide +kernel
theorem own_d27_13 : decode jdk_42_method_84_code 13 = .ok (.aload_n 0, 1) := by decide +kernel
theorem own_d27_14 : decode jdk_42_method_84_code 14 = .ok (.invokevirtual 492, 3) := by decide +kernel
theorem own_d27_17 : decode jdk_42_method_84_code 17 = .ok (.ifCond .eq 17, 3) := by decide +kernel
theorem own_d27_20 : decode jdk_42_method_84_code 20 = .ok (.aload_n 0, 1) := by decide +kernel
theorem own_d27_21 : decode jdk_42_method_84_code 21 = .ok (.getfield 9, 3) := by decide +kernel
theorem own_d27_24 : decode jdk_42_method_84_code 24 = .ok (.aload_n 1, 1) := by decide +kernel
theorem own_d27_25 : decode jdk_42_method_84_code 25 = .ok (.getfield 9, 3) := by decide +kernel
theorem own_d27_28 : decode jdk_42_method_84_code 28 = .ok (.invokestatic 647, 3) := by decide +kernel
theorem own_d27_31 : decode jdk_42_method_84_code 31 = .ok (.goto 14, 3) := by decide +kernel
theorem own_d27_45 : decode jdk_42_method_84_code 45 = .ok (.ireturn, 1) := by decide +kernel
theorem own_ef_own_ixs0 (m : MethodId) (x : Addr) (y : Addr) : entryFrame m #[(.ref x), (.ref y)] 3 = mkF m 0 #[rv x, rv y, .unset] [] := by first | (simp [entryFrame, mkF, argsToLocals, Value.category]; done) | rfl
set_option maxRecDepth 65536 in
set_option maxHeartbeats 40000000 in
theorem own_ixs0 (l : Launch) (Z : State) (a0 : Array Value) (H : own_Wld Z a0) {cw : List Jvm.Cond} (x : Addr) (y : Addr) (t u : Addr) (h0 : Heap) (O0 : Ext Z.heap h0) (St_x : Own.Str Z h0 x t ([] : List Int32)) (St_y : Own.Str Z h0 y u ([58] : List Int32)) :
    Own.Con l Z consts_1 (⟨"java/lang/String", "indexOf", "(Ljava/lang/String;)I"⟩ : MethodName) jdk_42_method_84_code 3 (some .int) cw ({ frames := 2, cells := 0, slots := 0, locals := 66 } : Room) #[(.ref x), (.ref y)] h0 (fun v h => Keep h0 h [] ∧ ∃ r, v = some (.int r) ∧ ((¬ r < 0 ∧ own_has ([] : List Int32)) ∨ (r < 0 ∧ ¬ own_has ([] : List Int32)))) := by
  have hw := H.1
  have hW := fun (i : Nat) (w : Jvm.Cond) (e : tables_1[i]? = some w) => hw w (List.mem_of_getElem? e)
  have hCm := H.2.1
  have hSi := H.2.2.1
  have hEL := H.2.2.2
  have hWs : ∀ d ∈ StrChars.Road.words, d.before a0 Z = true := fun d hd => hw d (own_wbackV d hd)
  have hWl : ∀ d ∈ StrChars.Road.wordsLen, d.before a0 Z = true := fun d hd => hw d (own_wlenW d hd)
  have hSA : ∀ d ∈ Bundle.stringAtoms, d.before a0 Z = true := fun d hd => hw d (own_wSA d hd)
  refine Own.Con.of own_pnfc072b hEL O0 ?_
  intro p e s m below meth c T0 G vm0 hx hby hml hret hnm hG hR S0
  have hz : ∀ L : Array Slot, L.size = 3 → L.size = c.maxLocals := fun L q => q.trans hml.symm
  rw [own_ef_own_ixs0]
  show G T0 (mkF m 0 #[rv x, rv y, .unset] [])
  obtain ⟨kb_x, E_x, Fv_x, Fc_x, A_t, hr_x, hl_x⟩ := id St_x
  obtain ⟨kb_y, E_y, Fv_y, Fc_y, A_u, hr_y, hl_y⟩ := id St_y
  refine hG.st (fun _ q => XS.aloadN S0.here hx rfl (hb hby own_d27_0) rfl rfl q) ?_
  show G T0 (mkF m 1 #[rv x, rv y, .unset] [(.ref x)])
  refine Own.Sit.callV hG S0 hx hEL (as := []) (hW 63 _ rfl) (hW 64 _ rfl) (hW 66 _ rfl) (hW 65 _ rfl) (hW 7 _ rfl) (hW 67 _ rfl) (by decide) E_x (own_coder l Z a0 H x t ([] : List Int32) h0 S0.old St_x) own_pdef5c10 rfl rfl (hz _ rfl) (rest := []) rfl (W := 0) (Own.hw0 rfl rfl) (hb hby own_d27_1) (by decide) (by decide) (by decide) (by decide) (fun v441 vm441 T441 h441 S441 C441 q441 => ?_)
  obtain ⟨K441, rfl⟩ := q441
  have J441 : Own.Stp Z consts_1 vm0 h0 vm441 h441 [] := ⟨K441, C441⟩
  refine hG.st (fun _ q => XS.istoreN S441.here hx rfl (hb hby own_d27_4) rfl (l' := #[rv x, rv y, iv 0]) rfl (XS.iloadN S441.here hx rfl (hb hby own_d27_5) rfl (XS.aloadN S441.here hx rfl (hb hby own_d27_6) rfl rfl q))) ?_
  show G T441 (mkF m 7 #[rv x, rv y, iv 0] [(.ref y), (.int 0)])
  have St442 := J441.str St_y nin0 nin0
  have E443 := J441.exa E_y
  refine Own.Sit.callV hG S441 hx hEL (as := []) (hW 63 _ rfl) (hW 64 _ rfl) (hW 66 _ rfl) (hW 65 _ rfl) (hW 7 _ rfl) (hW 67 _ rfl) (by decide) E443 (own_coder l Z a0 H y u ([58] : List Int32) h441 S441.old St442) own_pdef5c10 rfl rfl (hz _ rfl) (rest := [(.int 0)]) rfl (W := 1) (Own.hw0 rfl rfl) (hb hby own_d27_7) (by decide) (by decide) (by decide) (by decide) (fun v444 vm444 T444 h444 S444 C444 q444 => ?_)
  obtain ⟨K444, rfl⟩ := q444
  have J444 : Own.Stp Z consts_1 vm441 h441 vm444 h444 [] := ⟨K444, C444⟩
  refine hG.st (fun _ q => XS.icmpNo S444.here hx rfl (hb hby own_d27_10) rfl (teq (by decide : (0 : Int32) = (0 : Int32))).2 (XS.aloadN S444.here hx rfl (hb hby own_d27_13) rfl rfl q)) ?_
  show G T444 (mkF m 14 #[rv x, rv y, iv 0] [(.ref x)])
  have J445 : Own.Stp Z consts_1 vm0 h0 vm444 h444 [] := Own.Stp.trans J441 J444 (all0) all0
  have St446 := J445.str St_x nin0 nin0
  have E447 := J445.exa E_x
  refine Own.Sit.callV hG S444 hx hEL (as := []) (hW 69 _ rfl) (hW 70 _ rfl) (hW 72 _ rfl) (hW 71 _ rfl) (hW 7 _ rfl) (hW 73 _ rfl) (by decide) E447 (own_lat l Z a0 H x t ([] : List Int32) h444 S444.old St446) own_pdbfe1a5 rfl rfl (hz _ rfl) (rest := []) rfl (W := 0) (Own.hw0 rfl rfl) (hb hby own_d27_14) (by decide) (by decide) (by decide) (by decide) (fun v448 vm448 T448 h448 S448 C448 q448 => ?_)
  obtain ⟨K448, rfl⟩ := q448
  have J448 : Own.Stp Z consts_1 vm444 h444 vm448 h448 [] := ⟨K448, C448⟩
  refine hG.st (fun _ q => XS.ifNo S448.here hx rfl (hb hby own_d27_17) rfl ((if0 _ _).trans (feq (by decide : ¬ ((1 : Int32) = (0 : Int32)))).1) (XS.aloadN S448.here hx rfl (hb hby own_d27_20) rfl rfl q)) ?_
  show G T448 (mkF m 21 #[rv x, rv y, iv 0] [(.ref x)])
  have J449 : Own.Stp Z consts_1 vm0 h0 vm448 h448 [] := Own.Stp.trans J445 J448 (all0) all0
  have F450 := J449.fld Fv_x nin0
  refine Own.Sit.getF hG S448 hx (host := "") (Or.inl (hW 25 _ rfl)) Via.refl F450 rfl rfl (hb hby own_d27_21) (fun T451 S451 => ?_)
  refine hG.st (fun _ q => XS.aloadN S451.here hx rfl (hb hby own_d27_24) rfl rfl q) ?_
  show G T451 (mkF m 25 #[rv x, rv y, iv 0] [(.ref y), (.ref t)])
  have F452 := J449.fld Fv_y nin0
  refine Own.Sit.getF hG S451 hx (host := "") (Or.inl (hW 25 _ rfl)) Via.refl F452 rfl rfl (hb hby own_d27_25) (fun T453 S453 => ?_)
  have V454 := J449.arv A_t nin0
  have V455 := J449.arv A_u nin0
  show G T453 (mkF m 28 #[rv x, rv y, iv 0] [(.ref u), (.ref t)])
  refine Own.Sit.callS hG S453 hx hEL (as := [(.ref t), (.ref u)]) (hW 74 _ rfl) (hW 75 _ rfl) (hW 76 _ rfl) (hW 77 _ rfl) (by decide) (own_ixa0 l Z a0 H t u  h448 S453.old V454 V455) own_pd545b04 rfl rfl (hz _ rfl) (rest := []) rfl (W := 0) (Own.hw0 rfl rfl) (hb hby own_d27_28) (by decide) (by decide) (by decide) (by decide) (fun v456 vm456 T456 h456 S456 C456 q456 => ?_)
  obtain ⟨K456, r456, rfl, hq456⟩ := q456
  have J456 : Own.Stp Z consts_1 vm448 h448 vm456 h456 [] := ⟨K456, C456⟩
  refine hG.st (fun _ q => XS.goto S456.here hx rfl (pc0 := 31) (pc' := 45) rfl (hb hby own_d27_31) (by decide) (by decide) q) ?_
  show G T456 (mkF m 45 #[rv x, rv y, iv 0] [(.int r456)])
  have J457 : Own.Stp Z consts_1 vm0 h0 vm456 h456 [] := Own.Stp.trans J449 J456 (all0) all0
  exact Own.Sit.retO hR S456 hx hret rfl (Or.inl ⟨rfl, Or.inl rfl, _, rfl⟩) (hb hby own_d27_45) (by decide) (by decide) ⟨J457.1, _, rfl, hq456.imp (fun q => ⟨q.1, (own_hasb hr_x).mp q.2⟩) (fun q => ⟨q.1, fun z => q.2 ((own_hasb hr_x).mpr z)⟩)⟩
theorem own_pn7a92fb : plainFor (⟨"java/lang/String", "contains", "(Ljava/lang/CharSequence;)Z"⟩ : MethodName) = true := by first | exact plainFor_of_name (by first | (simp [plainName, overriddenIn]; done) | decide +kernel) | decide +kernel
theorem own_pdaf964f : parseMethodDescriptor "()Ljava/lang/String;" = some ⟨[], some (.object "java/lang/String")⟩ := by decide +kernel
theorem own_pdb70cb2 : parseMethodDescriptor "(Ljava/lang/String;)I" = some ⟨[(.object "java/lang/String")], some .int⟩ := by decide +kernel
theorem own_d28_0 : decode jdk_42_method_97_code 0 = .ok (.aload_n 0, 1) := by decide +kernel
theorem own_d28_1 : decode jdk_42_method_97_code 1 = .ok (.aload_n 1, 1) := by decide +kernel
theorem own_d28_2 : decode jdk_42_method_97_code 2 = .ok (.invokeinterface 710 1, 5) := by decide +kernel
theorem own_d28_7 : decode jdk_42_method_97_code 7 = .ok (.invokevirtual 711, 3) := by decide +kernel
theorem own_d28_10 : decode jdk_42_method_97_code 10 = .ok (.ifCond .lt 7, 3) := by decide +kernel
theorem own_d28_13 : decode jdk_42_method_97_code 13 = .ok (.iconst 1, 1) := by decide +kernel
theorem own_d28_14 : decode jdk_42_method_97_code 14 = .ok (.goto 4, 3) := by decide +kernel
theorem own_d28_17 : decode jdk_42_method_97_code 17 = .ok (.iconst 0, 1) := by decide +kernel
theorem own_d28_18 : decode jdk_42_method_97_code 18 = .ok (.ireturn, 1) := by decide +kernel
theorem own_ef_own_ctn0 (m : MethodId) (x : Addr) (y : Addr) : entryFrame m #[(.ref x), (.ref y)] 2 = mkF m 0 #[rv x, rv y] [] := by first | (simp [entryFrame, mkF, argsToLocals, Value.category]; done) | rfl
set_option maxRecDepth 65536 in
set_option maxHeartbeats 40000000 in
theorem own_ctn0 (l : Launch) (Z : State) (a0 : Array Value) (H : own_Wld Z a0) {cw : List Jvm.Cond} (x : Addr) (y : Addr) (t u : Addr) (h0 : Heap) (O0 : Ext Z.heap h0) (St_x : Own.Str Z h0 x t ([] : List Int32)) (St_y : Own.Str Z h0 y u ([58] : List Int32)) :
    Own.Con l Z consts_1 (⟨"java/lang/String", "contains", "(Ljava/lang/CharSequence;)Z"⟩ : MethodName) jdk_42_method_97_code 2 (some .boolean) cw ({ frames := 3, cells := 0, slots := 0, locals := 90 } : Room) #[(.ref x), (.ref y)] h0 (fun v h => Keep h0 h [] ∧ ∃ r, v = some (.int r) ∧ ((r = 1 ∧ own_has ([] : List Int32)) ∨ (r = 0 ∧ ¬ own_has ([] : List Int32)))) := by
  have hw := H.1
  have hW := fun (i : Nat) (w : Jvm.Cond) (e : tables_1[i]? = some w) => hw w (List.mem_of_getElem? e)
  have hCm := H.2.1
  have hSi := H.2.2.1
  have hEL := H.2.2.2
  have hWs : ∀ d ∈ StrChars.Road.words, d.before a0 Z = true := fun d hd => hw d (own_wbackV d hd)
  have hWl : ∀ d ∈ StrChars.Road.wordsLen, d.before a0 Z = true := fun d hd => hw d (own_wlenW d hd)
  have hSA : ∀ d ∈ Bundle.stringAtoms, d.before a0 Z = true := fun d hd => hw d (own_wSA d hd)
  refine Own.Con.of own_pn7a92fb hEL O0 ?_
  intro p e s m below meth c T0 G vm0 hx hby hml hret hnm hG hR S0
  have hz : ∀ L : Array Slot, L.size = 2 → L.size = c.maxLocals := fun L q => q.trans hml.symm
  rw [own_ef_own_ctn0]
  show G T0 (mkF m 0 #[rv x, rv y] [])
  refine hG.st (fun _ q => XS.aloadN S0.here hx rfl (hb hby own_d28_0) rfl rfl (XS.aloadN S0.here hx rfl (hb hby own_d28_1) rfl rfl q)) ?_
  show G T0 (mkF m 2 #[rv x, rv y] [(.ref y), (.ref x)])
  refine Own.Sit.callF hG S0 hx hEL (xi := (⟨"java/lang/CharSequence", "toString", "()Ljava/lang/String;"⟩ : MethodName)) (as := []) (hW 49 _ rfl) (hW 50 _ rfl) (hW 51 _ rfl) (hW 52 _ rfl) (hW 53 _ rfl) (hW 54 _ rfl) (hW 55 _ rfl) (hW 56 _ rfl) (hW 7 _ rfl) (hW 57 _ rfl) (by decide) St_y.exa (own_tos l Z a0 H y h0 S0.old) own_pdaf964f rfl rfl (hz _ rfl) (rest := [(.ref x)]) rfl (W := 1) (Own.hw0 rfl rfl) (hb hby own_d28_2) (by decide) (by decide) (by decide) (by decide) (fun v458 vm458 T458 h458 S458 C458 q458 => ?_)
  obtain ⟨K458, rfl⟩ := q458
  have J458 : Own.Stp Z consts_1 vm0 h0 vm458 h458 [] := ⟨K458, C458⟩
  have St459 := J458.str St_x nin0 nin0
  have St460 := J458.str St_y nin0 nin0
  show G T458 (mkF m 7 #[rv x, rv y] [(.ref y), (.ref x)])
  refine Own.Sit.callV hG S458 hx hEL (as := [(.ref y)]) (hW 58 _ rfl) (hW 59 _ rfl) (hW 61 _ rfl) (hW 60 _ rfl) (hW 7 _ rfl) (hW 62 _ rfl) (by decide) St459.exa (own_ixs0 l Z a0 H x y t u  h458 S458.old St459 St460) own_pdb70cb2 rfl rfl (hz _ rfl) (rest := []) rfl (W := 0) (Own.hw0 rfl rfl) (hb hby own_d28_7) (by decide) (by decide) (by decide) (by decide) (fun v461 vm461 T461 h461 S461 C461 q461 => ?_)
  obtain ⟨K461, r461, rfl, hq461⟩ := q461
  have J461 : Own.Stp Z consts_1 vm458 h458 vm461 h461 [] := ⟨K461, C461⟩
  show G T461 (mkF m 10 #[rv x, rv y] [(.int r461)])
  by_cases hc10 : r461 < (0 : Int32)
  ·
    refine hG.st (fun _ q => XS.ifYes S461.here hx rfl (pc0 := 10) (pc' := 17) rfl (hb hby own_d28_10) rfl ((if0 _ _).trans (tlt hc10).1) (by decide) (by decide) (XS.iconst S461.here hx rfl (hb hby own_d28_17) q)) ?_
    show G T461 (mkF m 18 #[rv x, rv y] [(.int 0)])
    have J462 : Own.Stp Z consts_1 vm0 h0 vm461 h461 [] := Own.Stp.trans J458 J461 (all0) all0
    exact Own.Sit.retN hR S461 hx (t := .boolean) hret (by simp) (hb hby own_d28_18) (by decide) (by decide) ⟨J462.1, 0, rfl, Or.inr ⟨rfl, own_hn hq461 hc10⟩⟩
  ·
    refine hG.st (fun _ q => XS.ifNo S461.here hx rfl (hb hby own_d28_10) rfl ((if0 _ _).trans (flt hc10).1) (XS.iconst S461.here hx rfl (hb hby own_d28_13) (XS.goto S461.here hx rfl (pc0 := 14) (pc' := 18) rfl (hb hby own_d28_14) (by decide) (by decide) q))) ?_
    show G T461 (mkF m 18 #[rv x, rv y] [(.int 1)])
    have J463 : Own.Stp Z consts_1 vm0 h0 vm461 h461 [] := Own.Stp.trans J458 J461 (all0) all0
    exact Own.Sit.retN hR S461 hx (t := .boolean) hret (by simp) (hb hby own_d28_18) (by decide) (by decide) ⟨J463.1, 1, rfl, Or.inl ⟨rfl, own_hy hq461 hc10⟩⟩
theorem own_pn8094ca : plainFor (⟨"java/lang/StringLatin1", "indexOf", "([BI[BII)I"⟩ : MethodName) = true := by first | exact plainFor_of_name (by first | (simp [plainName, overriddenIn]; done) | decide +kernel) | decide +kernel
theorem own_d29_0 : decode jdk_43_method_25_code 0 = .ok (.aload_n 2, 1) := by decide +kernel
theorem own_d29_1 : decode jdk_43_method_25_code 1 = .ok (.iconst 0, 1) := by decide +kernel
theorem own_d29_2 : decode jdk_43_method_25_code 2 = .ok (.baload, 1) := by decide +kernel
theorem own_d29_3 : decode jdk_43_method_25_code 3 = .ok (.istore 5, 2) := by decide +kernel
theorem own_d29_5 : decode jdk_43_method_25_code 5 = .ok (.iload_n 1, 1) := by decide +kernel
theorem own_d29_6 : decode jdk_43_method_25_code 6 = .ok (.iload_n 3, 1) := by decide +kernel
theorem own_d29_7 : decode jdk_43_method_25_code 7 = .ok (.isub, 1) := by decide +kernel
theorem own_d29_8 : decode jdk_43_method_25_code 8 = .ok (.istore 6, 2) := by decide +kernel
theorem own_d29_10 : decode jdk_43_method_25_code 10 = .ok (.iload 4, 2) := by decide +kernel
theorem own_d29_12 : decode jdk_43_method_25_code 12 = .ok (.istore 7, 2) := by decide +kernel
theorem own_d29_14 : decode jdk_43_method_25_code 14 = .ok (.iload 7, 2) := by decide +kernel
theorem own_d29_16 : decode jdk_43_method_25_code 16 = .ok (.iload 6, 2) := by decide +kernel
theorem own_d29_18 : decode jdk_43_method_25_code 18 = .ok (.if_icmp .gt 101, 3) := by decide +kernel
theorem own_d29_21 : decode jdk_43_method_25_code 21 = .ok (.aload_n 0, 1) := by decide +kernel
theorem own_d29_22 : decode jdk_43_method_25_code 22 = .ok (.iload 7, 2) := by decide +kernel
theorem own_d29_24 : decode jdk_43_method_25_code 24 = .ok (.baload, 1) := by decide +kernel
theorem own_d29_25 : decode jdk_43_method_25_code 25 = .ok (.iload 5, 2) := by decide +kernel
theorem own_d29_27 : decode jdk_43_method_25_code 27 = .ok (.if_icmp .eq 25, 3) := by decide +kernel
theorem own_d29_30 : decode jdk_43_method_25_code 30 = .ok (.iinc 7 1, 3) := by decide +kernel
theorem own_d29_33 : decode jdk_43_method_25_code 33 = .ok (.iload 7, 2) := by decide +kernel
theorem own_d29_35 : decode jdk_43_method_25_code 35 = .ok (.iload 6, 2) := by decide +kernel
theorem own_d29_37 : decode jdk_43_method_25_code 37 = .ok (.if_icmp .gt 15, 3) := by decide +kernel
theorem own_d29_52 : decode jdk_43_method_25_code 52 = .ok (.iload 7, 2) := by decide +kernel
theorem own_d29_54 : decode jdk_43_method_25_code 54 = .ok (.iload 6, 2) := by decide +kernel
theorem own_d29_56 : decode jdk_43_method_25_code 56 = .ok (.if_icmp .gt 57, 3) := by decide +kernel
theorem own_d29_59 : decode jdk_43_method_25_code 59 = .ok (.iload 7, 2) := by decide +kernel
theorem own_d29_61 : decode jdk_43_method_25_code 61 = .ok (.iconst 1, 1) := by decide +kernel
theorem own_d29_62 : decode jdk_43_method_25_code 62 = .ok (.iadd, 1) := by decide +kernel
theorem own_d29_63 : decode jdk_43_method_25_code 63 = .ok (.istore 8, 2) := by decide +kernel
theorem own_d29_65 : decode jdk_43_method_25_code 65 = .ok (.iload 8, 2) := by decide +kernel
theorem own_d29_67 : decode jdk_43_method_25_code 67 = .ok (.iload_n 3, 1) := by decide +kernel
theorem own_d29_68 : decode jdk_43_method_25_code 68 = .ok (.iadd, 1) := by decide +kernel
theorem own_d29_69 : decode jdk_43_method_25_code 69 = .ok (.iconst 1, 1) := by decide +kernel
theorem own_d29_70 : decode jdk_43_method_25_code 70 = .ok (.isub, 1) := by decide +kernel
theorem own_d29_71 : decode jdk_43_method_25_code 71 = .ok (.istore 9, 2) := by decide +kernel
theorem own_d29_73 : decode jdk_43_method_25_code 73 = .ok (.iconst 1, 1) := by decide +kernel
theorem own_d29_74 : decode jdk_43_method_25_code 74 = .ok (.istore 10, 2) := by decide +kernel
theorem own_d29_76 : decode jdk_43_method_25_code 76 = .ok (.iload 8, 2) := by decide +kernel
theorem own_d29_78 : decode jdk_43_method_25_code 78 = .ok (.iload 9, 2) := by decide +kernel
theorem own_d29_80 : decode jdk_43_method_25_code 80 = .ok (.if_icmp .ge 23, 3) := by decide +kernel
theorem own_d29_103 : decode jdk_43_method_25_code 103 = .ok (.iload 8, 2) := by decide +kernel
theorem own_d29_105 : decode jdk_43_method_25_code 105 = .ok (.iload 9, 2) := by decide +kernel
theorem own_d29_107 : decode jdk_43_method_25_code 107 = .ok (.if_icmp .ne 6, 3) := by decide +kernel
theorem own_d29_110 : decode jdk_43_method_25_code 110 = .ok (.iload 7, 2) := by decide +kernel
theorem own_d29_112 : decode jdk_43_method_25_code 112 = .ok (.ireturn, 1) := by decide +kernel
theorem own_d29_113 : decode jdk_43_method_25_code 113 = .ok (.iinc 7 1, 3) := by decide +kernel
theorem own_d29_116 : decode jdk_43_method_25_code 116 = .ok (.goto (-102), 3) := by decide +kernel
theorem own_d29_119 : decode jdk_43_method_25_code 119 = .ok (.iconst (-1), 1) := by decide +kernel
theorem own_d29_120 : decode jdk_43_method_25_code 120 = .ok (.ireturn, 1) := by decide +kernel
theorem own_ef_own_ixb1 (m : MethodId) (t : Addr) (u : Addr) : entryFrame m #[(.ref t), (.int 1), (.ref u), (.int 1), (.int 0)] 11 = mkF m 0 #[rv t, iv 1, rv u, iv 1, iv 0, .unset, .unset, .unset, .unset, .unset, .unset] [] := by first | (simp [entryFrame, mkF, argsToLocals, Value.category]; done) | rfl
set_option maxRecDepth 65536 in
set_option maxHeartbeats 40000000 in
theorem own_ixb1 (l : Launch) (Z : State) (a0 : Array Value) (H : own_Wld Z a0) {cw : List Jvm.Cond} (t : Addr) (u : Addr) (e0 : Int32) (h0 : Heap) (O0 : Ext Z.heap h0) {kt ku : ClassId} (A_t : Arv Z h0 t kt .byte (1 : Int32) [(.int e0)] (.int 0)) (A_u : Arv Z h0 u ku .byte (1 : Int32) [(.int 58)] (.int 0)) :
    Own.Con l Z consts_1 (⟨"java/lang/StringLatin1", "indexOf", "([BI[BII)I"⟩ : MethodName) jdk_43_method_25_code 11 (some .int) cw ({ frames := 0, cells := 0, slots := 0, locals := 0 } : Room) #[(.ref t), (.int 1), (.ref u), (.int 1), (.int 0)] h0 (fun v h => Keep h0 h [] ∧ ∃ r, v = some (.int r) ∧ ((¬ r < 0 ∧ (58 : Int32) ∈ ([e0] : List Int32)) ∨ (r < 0 ∧ ¬ (58 : Int32) ∈ ([e0] : List Int32)))) := by
  have hw := H.1
  have hW := fun (i : Nat) (w : Jvm.Cond) (e : tables_1[i]? = some w) => hw w (List.mem_of_getElem? e)
  have hCm := H.2.1
  have hSi := H.2.2.1
  have hEL := H.2.2.2
  have hWs : ∀ d ∈ StrChars.Road.words, d.before a0 Z = true := fun d hd => hw d (own_wbackV d hd)
  have hWl : ∀ d ∈ StrChars.Road.wordsLen, d.before a0 Z = true := fun d hd => hw d (own_wlenW d hd)
  have hSA : ∀ d ∈ Bundle.stringAtoms, d.before a0 Z = true := fun d hd => hw d (own_wSA d hd)
  refine Own.Con.of own_pn8094ca hEL O0 ?_
  intro p e s m below meth c T0 G vm0 hx hby hml hret hnm hG hR S0
  have hz : ∀ L : Array Slot, L.size = 11 → L.size = c.maxLocals := fun L q => q.trans hml.symm
  rw [own_ef_own_ixb1]
  show G T0 (mkF m 0 #[rv t, iv 1, rv u, iv 1, iv 0, .unset, .unset, .unset, .unset, .unset, .unset] [])
  refine hG.st (fun _ q => XS.aloadN S0.here hx rfl (hb hby own_d29_0) rfl rfl (XS.iconst S0.here hx rfl (hb hby own_d29_1) q)) ?_
  show G T0 (mkF m 2 #[rv t, iv 1, rv u, iv 1, iv 0, .unset, .unset, .unset, .unset, .unset, .unset] [(.int 0), (.ref u)])
  refine Own.Sit.baload hG S0 hx A_u ⟨by decide, by decide⟩ rfl rfl rfl (hb hby own_d29_2) ?_
  show G T0 (mkF m 3 #[rv t, iv 1, rv u, iv 1, iv 0, .unset, .unset, .unset, .unset, .unset, .unset] [(.int 58)])
  refine hG.st (fun _ q => XS.istore S0.here hx rfl (hb hby own_d29_3) rfl (l' := #[rv t, iv 1, rv u, iv 1, iv 0, iv 58, .unset, .unset, .unset, .unset, .unset]) rfl (XS.iloadN S0.here hx rfl (hb hby own_d29_5) rfl (XS.iloadN S0.here hx rfl (hb hby own_d29_6) rfl (XS.isub S0.here hx rfl (hb hby own_d29_7) rfl (XS.istore S0.here hx rfl (hb hby own_d29_8) rfl (l' := #[rv t, iv 1, rv u, iv 1, iv 0, iv 58, iv 0, .unset, .unset, .unset, .unset]) rfl (XS.iload S0.here hx rfl (hb hby own_d29_10) rfl q)))))) ?_
  show G T0 (mkF m 12 #[rv t, iv 1, rv u, iv 1, iv 0, iv 58, iv 0, .unset, .unset, .unset, .unset] [(.int 0)])
  refine hG.st (fun _ q => XS.istore S0.here hx rfl (hb hby own_d29_12) rfl (l' := #[rv t, iv 1, rv u, iv 1, iv 0, iv 58, iv 0, iv 0, .unset, .unset, .unset]) rfl (XS.iload S0.here hx rfl (hb hby own_d29_14) rfl (XS.iload S0.here hx rfl (hb hby own_d29_16) rfl (XS.icmpNo S0.here hx rfl (hb hby own_d29_18) rfl (flt (by decide : ¬ ((0 : Int32) < (0 : Int32)))).2.2.1 (XS.aloadN S0.here hx rfl (hb hby own_d29_21) rfl rfl (XS.iload S0.here hx rfl (hb hby own_d29_22) rfl q)))))) ?_
  show G T0 (mkF m 24 #[rv t, iv 1, rv u, iv 1, iv 0, iv 58, iv 0, iv 0, .unset, .unset, .unset] [(.int 0), (.ref t)])
  refine Own.Sit.baload hG S0 hx A_t ⟨by decide, by decide⟩ rfl rfl rfl (hb hby own_d29_24) ?_
  show G T0 (mkF m 25 #[rv t, iv 1, rv u, iv 1, iv 0, iv 58, iv 0, iv 0, .unset, .unset, .unset] [(.int e0)])
  refine hG.st (fun _ q => XS.iload S0.here hx rfl (hb hby own_d29_25) rfl q) ?_
  show G T0 (mkF m 27 #[rv t, iv 1, rv u, iv 1, iv 0, iv 58, iv 0, iv 0, .unset, .unset, .unset] [(.int 58), (.int e0)])
  by_cases hc27_464 : e0 = (58 : Int32)
  ·
    refine hG.st (fun _ q => XS.icmpYes S0.here hx rfl (pc0 := 27) (pc' := 52) rfl (hb hby own_d29_27) rfl (teq hc27_464).1 (by decide) (by decide) (XS.iload S0.here hx rfl (hb hby own_d29_52) rfl (XS.iload S0.here hx rfl (hb hby own_d29_54) rfl (XS.icmpNo S0.here hx rfl (hb hby own_d29_56) rfl (flt (by decide : ¬ ((0 : Int32) < (0 : Int32)))).2.2.1 (XS.iload S0.here hx rfl (hb hby own_d29_59) rfl (XS.iconst S0.here hx rfl (hb hby own_d29_61) q)))))) ?_
    show G T0 (mkF m 62 #[rv t, iv 1, rv u, iv 1, iv 0, iv 58, iv 0, iv 0, .unset, .unset, .unset] [(.int 1), (.int 0)])
    refine hG.st (fun _ q => XS.iadd S0.here hx rfl (hb hby own_d29_62) rfl (XS.istore S0.here hx rfl (hb hby own_d29_63) rfl (l' := #[rv t, iv 1, rv u, iv 1, iv 0, iv 58, iv 0, iv 0, iv 1, .unset, .unset]) rfl (XS.iload S0.here hx rfl (hb hby own_d29_65) rfl (XS.iloadN S0.here hx rfl (hb hby own_d29_67) rfl (XS.iadd S0.here hx rfl (hb hby own_d29_68) rfl (XS.iconst S0.here hx rfl (hb hby own_d29_69) q)))))) ?_
    show G T0 (mkF m 70 #[rv t, iv 1, rv u, iv 1, iv 0, iv 58, iv 0, iv 0, iv 1, .unset, .unset] [(.int 1), (.int 2)])
    refine hG.st (fun _ q => XS.isub S0.here hx rfl (hb hby own_d29_70) rfl (XS.istore S0.here hx rfl (hb hby own_d29_71) rfl (l' := #[rv t, iv 1, rv u, iv 1, iv 0, iv 58, iv 0, iv 0, iv 1, iv 1, .unset]) rfl (XS.iconst S0.here hx rfl (hb hby own_d29_73) (XS.istore S0.here hx rfl (hb hby own_d29_74) rfl (l' := #[rv t, iv 1, rv u, iv 1, iv 0, iv 58, iv 0, iv 0, iv 1, iv 1, iv 1]) rfl (XS.iload S0.here hx rfl (hb hby own_d29_76) rfl (XS.iload S0.here hx rfl (hb hby own_d29_78) rfl q)))))) ?_
    show G T0 (mkF m 80 #[rv t, iv 1, rv u, iv 1, iv 0, iv 58, iv 0, iv 0, iv 1, iv 1, iv 1] [(.int 1), (.int 1)])
    refine hG.st (fun _ q => XS.icmpYes S0.here hx rfl (pc0 := 80) (pc' := 103) rfl (hb hby own_d29_80) rfl (flt (by decide : ¬ ((1 : Int32) < (1 : Int32)))).2.1 (by decide) (by decide) (XS.iload S0.here hx rfl (hb hby own_d29_103) rfl (XS.iload S0.here hx rfl (hb hby own_d29_105) rfl (XS.icmpNo S0.here hx rfl (hb hby own_d29_107) rfl (teq (by decide : (1 : Int32) = (1 : Int32))).2 (XS.iload S0.here hx rfl (hb hby own_d29_110) rfl q))))) ?_
    show G T0 (mkF m 112 #[rv t, iv 1, rv u, iv 1, iv 0, iv 58, iv 0, iv 0, iv 1, iv 1, iv 1] [(.int 0)])
    exact Own.Sit.retO hR S0 hx hret rfl (Or.inl ⟨rfl, Or.inl rfl, _, rfl⟩) (hb hby own_d29_112) (by decide) (by decide) ⟨(Keep.refl _ _), _, rfl, Or.inl ⟨by decide, (List.mem_cons.mpr (Or.inl hc27_464.symm))⟩⟩
  ·
    refine hG.st (fun _ q => XS.icmpNo S0.here hx rfl (hb hby own_d29_27) rfl (feq hc27_464).1 (XS.iinc S0.here hx rfl (hb hby own_d29_30) rfl (l' := #[rv t, iv 1, rv u, iv 1, iv 0, iv 58, iv 0, iv 1, .unset, .unset, .unset]) rfl (XS.iload S0.here hx rfl (hb hby own_d29_33) rfl (XS.iload S0.here hx rfl (hb hby own_d29_35) rfl (XS.icmpYes S0.here hx rfl (pc0 := 37) (pc' := 52) rfl (hb hby own_d29_37) rfl (tlt (by decide : (0 : Int32) < (1 : Int32))).2.2.1 (by decide) (by decide) (XS.iload S0.here hx rfl (hb hby own_d29_52) rfl q)))))) ?_
    show G T0 (mkF m 54 #[rv t, iv 1, rv u, iv 1, iv 0, iv 58, iv 0, iv 1, .unset, .unset, .unset] [(.int 1)])
    refine hG.st (fun _ q => XS.iload S0.here hx rfl (hb hby own_d29_54) rfl (XS.icmpYes S0.here hx rfl (pc0 := 56) (pc' := 113) rfl (hb hby own_d29_56) rfl (tlt (by decide : (0 : Int32) < (1 : Int32))).2.2.1 (by decide) (by decide) (XS.iinc S0.here hx rfl (hb hby own_d29_113) rfl (l' := #[rv t, iv 1, rv u, iv 1, iv 0, iv 58, iv 0, iv 2, .unset, .unset, .unset]) rfl (XS.goto S0.here hx rfl (pc0 := 116) (pc' := 14) rfl (hb hby own_d29_116) (by decide) (by decide) (XS.iload S0.here hx rfl (hb hby own_d29_14) rfl (XS.iload S0.here hx rfl (hb hby own_d29_16) rfl q)))))) ?_
    show G T0 (mkF m 18 #[rv t, iv 1, rv u, iv 1, iv 0, iv 58, iv 0, iv 2, .unset, .unset, .unset] [(.int 0), (.int 2)])
    refine hG.st (fun _ q => XS.icmpYes S0.here hx rfl (pc0 := 18) (pc' := 119) rfl (hb hby own_d29_18) rfl (tlt (by decide : (0 : Int32) < (2 : Int32))).2.2.1 (by decide) (by decide) (XS.iconst S0.here hx rfl (hb hby own_d29_119) q)) ?_
    show G T0 (mkF m 120 #[rv t, iv 1, rv u, iv 1, iv 0, iv 58, iv 0, iv 2, .unset, .unset, .unset] [(.int (-1 : Int32))])
    exact Own.Sit.retO hR S0 hx hret rfl (Or.inl ⟨rfl, Or.inl rfl, _, rfl⟩) (hb hby own_d29_120) (by decide) (by decide) ⟨(Keep.refl _ _), _, rfl, Or.inr ⟨by decide, (fun q => (List.mem_cons.mp q).elim (fun z => hc27_464 z.symm) (fun q => absurd q List.not_mem_nil))⟩⟩
theorem own_pd9b1595 : parseMethodDescriptor "([BI[BII)I" = some ⟨[(.array .byte), .int, (.array .byte), .int, .int], some .int⟩ := by decide +kernel
theorem own_d26_14 : decode jdk_43_method_24_code 14 = .ok (.aload_n 0, 1) := by decide +kernel
theorem own_d26_15 : decode jdk_43_method_24_code 15 = .ok (.aload_n 0, 1) := by decide +kernel
theorem own_d26_16 : decode jdk_43_method_24_code 16 = .ok (.arraylength, 1) := by decide +kernel
theorem own_d26_17 : decode jdk_43_method_24_code 17 = .ok (.aload_n 1, 1) := by decide +kernel
theorem own_d26_18 : decode jdk_43_method_24_code 18 = .ok (.aload_n 1, 1) := by decide +kernel
theorem own_d26_19 : decode jdk_43_method_24_code 19 = .ok (.arraylength, 1) := by decide +kernel
theorem own_d26_20 : decode jdk_43_method_24_code 20 = .ok (.iconst 0, 1) := by decide +kernel
theorem own_d26_21 : decode jdk_43_method_24_code 21 = .ok (.invokestatic 99, 3) := by decide +kernel
theorem own_d26_24 : decode jdk_43_method_24_code 24 = .ok (.ireturn, 1) := by decide +kernel
theorem own_ef_own_ixa1 (m : MethodId) (t : Addr) (u : Addr) : entryFrame m #[(.ref t), (.ref u)] 2 = mkF m 0 #[rv t, rv u] [] := by first | (simp [entryFrame, mkF, argsToLocals, Value.category]; done) | rfl
set_option maxRecDepth 65536 in
set_option maxHeartbeats 40000000 in
theorem own_ixa1 (l : Launch) (Z : State) (a0 : Array Value) (H : own_Wld Z a0) {cw : List Jvm.Cond} (t : Addr) (u : Addr) (e0 : Int32) (h0 : Heap) (O0 : Ext Z.heap h0) {kt ku : ClassId} (A_t : Arv Z h0 t kt .byte (1 : Int32) [(.int e0)] (.int 0)) (A_u : Arv Z h0 u ku .byte (1 : Int32) [(.int 58)] (.int 0)) :
    Own.Con l Z consts_1 (⟨"java/lang/StringLatin1", "indexOf", "([B[B)I"⟩ : MethodName) jdk_43_method_24_code 2 (some .int) cw ({ frames := 1, cells := 0, slots := 0, locals := 40 } : Room) #[(.ref t), (.ref u)] h0 (fun v h => Keep h0 h [] ∧ ∃ r, v = some (.int r) ∧ ((¬ r < 0 ∧ (58 : Int32) ∈ ([e0] : List Int32)) ∨ (r < 0 ∧ ¬ (58 : Int32) ∈ ([e0] : List Int32)))) := by
  have hw := H.1
  have hW := fun (i : Nat) (w : Jvm.Cond) (e : tables_1[i]? = some w) => hw w (List.mem_of_getElem? e)
  have hCm := H.2.1
  have hSi := H.2.2.1
  have hEL := H.2.2.2
  have hWs : ∀ d ∈ StrChars.Road.words, d.before a0 Z = true := fun d hd => hw d (own_wbackV d hd)
  have hWl : ∀ d ∈ StrChars.Road.wordsLen, d.before a0 Z = true := fun d hd => hw d (own_wlenW d hd)
  have hSA : ∀ d ∈ Bundle.stringAtoms, d.before a0 Z = true := fun d hd => hw d (own_wSA d hd)
  refine Own.Con.of own_pn901139 hEL O0 ?_
  intro p e s m below meth c T0 G vm0 hx hby hml hret hnm hG hR S0
  have hz : ∀ L : Array Slot, L.size = 2 → L.size = c.maxLocals := fun L q => q.trans hml.symm
  rw [own_ef_own_ixa1]
  show G T0 (mkF m 0 #[rv t, rv u] [])
  refine hG.st (fun _ q => XS.aloadN S0.here hx rfl (hb hby own_d26_0) rfl rfl q) ?_
  show G T0 (mkF m 1 #[rv t, rv u] [(.ref u)])
  refine Own.Sit.arraylength hG S0 hx A_u rfl rfl (hb hby own_d26_1) ?_
  show G T0 (mkF m 2 #[rv t, rv u] [(.int 1)])
  refine hG.st (fun _ q => XS.ifYes S0.here hx rfl (pc0 := 2) (pc' := 7) rfl (hb hby own_d26_2) rfl ((if0 _ _).trans (feq (by decide : ¬ ((1 : Int32) = (0 : Int32)))).2) (by decide) (by decide) (XS.aloadN S0.here hx rfl (hb hby own_d26_7) rfl rfl q)) ?_
  show G T0 (mkF m 8 #[rv t, rv u] [(.ref t)])
  refine Own.Sit.arraylength hG S0 hx A_t rfl rfl (hb hby own_d26_8) ?_
  show G T0 (mkF m 9 #[rv t, rv u] [(.int 1)])
  refine hG.st (fun _ q => XS.ifYes S0.here hx rfl (pc0 := 9) (pc' := 14) rfl (hb hby own_d26_9) rfl ((if0 _ _).trans (feq (by decide : ¬ ((1 : Int32) = (0 : Int32)))).2) (by decide) (by decide) (XS.aloadN S0.here hx rfl (hb hby own_d26_14) rfl rfl (XS.aloadN S0.here hx rfl (hb hby own_d26_15) rfl rfl q))) ?_
  show G T0 (mkF m 16 #[rv t, rv u] [(.ref t), (.ref t)])
  refine Own.Sit.arraylength hG S0 hx A_t rfl rfl (hb hby own_d26_16) ?_
  show G T0 (mkF m 17 #[rv t, rv u] [(.int 1), (.ref t)])
  refine hG.st (fun _ q => XS.aloadN S0.here hx rfl (hb hby own_d26_17) rfl rfl (XS.aloadN S0.here hx rfl (hb hby own_d26_18) rfl rfl q)) ?_
  show G T0 (mkF m 19 #[rv t, rv u] [(.ref u), (.ref u), (.int 1), (.ref t)])
  refine Own.Sit.arraylength hG S0 hx A_u rfl rfl (hb hby own_d26_19) ?_
  show G T0 (mkF m 20 #[rv t, rv u] [(.int 1), (.ref u), (.int 1), (.ref t)])
  refine hG.st (fun _ q => XS.iconst S0.here hx rfl (hb hby own_d26_20) q) ?_
  show G T0 (mkF m 21 #[rv t, rv u] [(.int 0), (.int 1), (.ref u), (.int 1), (.ref t)])
  refine Own.Sit.callS hG S0 hx hEL (as := [(.ref t), (.int 1), (.ref u), (.int 1), (.int 0)]) (hW 232 _ rfl) (hW 233 _ rfl) (hW 76 _ rfl) (hW 234 _ rfl) (by decide) (own_ixb1 l Z a0 H t u _ h0 S0.old A_t A_u) own_pd9b1595 rfl rfl (hz _ rfl) (rest := []) rfl (W := 0) (Own.hw0 rfl rfl) (hb hby own_d26_21) (by decide) (by decide) (by decide) (by decide) (fun v465 vm465 T465 h465 S465 C465 q465 => ?_)
  obtain ⟨K465, r465, rfl, hq465⟩ := q465
  have J465 : Own.Stp Z consts_1 vm0 h0 vm465 h465 [] := ⟨K465, C465⟩
  show G T465 (mkF m 24 #[rv t, rv u] [(.int r465)])
  exact Own.Sit.retO hR S465 hx hret rfl (Or.inl ⟨rfl, Or.inl rfl, _, rfl⟩) (hb hby own_d26_24) (by decide) (by decide) ⟨J465.1, _, rfl, hq465⟩
theorem own_ef_own_ixs1 (m : MethodId) (x : Addr) (y : Addr) : entryFrame m #[(.ref x), (.ref y)] 3 = mkF m 0 #[rv x, rv y, .unset] [] := by first | (simp [entryFrame, mkF, argsToLocals, Value.category]; done) | rfl
set_option maxRecDepth 65536 in
set_option maxHeartbeats 40000000 in
theorem own_ixs1 (l : Launch) (Z : State) (a0 : Array Value) (H : own_Wld Z a0) {cw : List Jvm.Cond} (x : Addr) (y : Addr) (t u : Addr) (c0 : Int32) (h0 : Heap) (O0 : Ext Z.heap h0) (St_x : Own.Str Z h0 x t ([c0] : List Int32)) (St_y : Own.Str Z h0 y u ([58] : List Int32)) :
    Own.Con l Z consts_1 (⟨"java/lang/String", "indexOf", "(Ljava/lang/String;)I"⟩ : MethodName) jdk_42_method_84_code 3 (some .int) cw ({ frames := 2, cells := 0, slots := 0, locals := 66 } : Room) #[(.ref x), (.ref y)] h0 (fun v h => Keep h0 h [] ∧ ∃ r, v = some (.int r) ∧ ((¬ r < 0 ∧ own_has ([c0] : List Int32)) ∨ (r < 0 ∧ ¬ own_has ([c0] : List Int32)))) := by
  have hw := H.1
  have hW := fun (i : Nat) (w : Jvm.Cond) (e : tables_1[i]? = some w) => hw w (List.mem_of_getElem? e)
  have hCm := H.2.1
  have hSi := H.2.2.1
  have hEL := H.2.2.2
  have hWs : ∀ d ∈ StrChars.Road.words, d.before a0 Z = true := fun d hd => hw d (own_wbackV d hd)
  have hWl : ∀ d ∈ StrChars.Road.wordsLen, d.before a0 Z = true := fun d hd => hw d (own_wlenW d hd)
  have hSA : ∀ d ∈ Bundle.stringAtoms, d.before a0 Z = true := fun d hd => hw d (own_wSA d hd)
  refine Own.Con.of own_pnfc072b hEL O0 ?_
  intro p e s m below meth c T0 G vm0 hx hby hml hret hnm hG hR S0
  have hz : ∀ L : Array Slot, L.size = 3 → L.size = c.maxLocals := fun L q => q.trans hml.symm
  rw [own_ef_own_ixs1]
  show G T0 (mkF m 0 #[rv x, rv y, .unset] [])
  obtain ⟨kb_x, E_x, Fv_x, Fc_x, A_t, hr_x, hl_x⟩ := id St_x
  obtain ⟨kb_y, E_y, Fv_y, Fc_y, A_u, hr_y, hl_y⟩ := id St_y
  refine hG.st (fun _ q => XS.aloadN S0.here hx rfl (hb hby own_d27_0) rfl rfl q) ?_
  show G T0 (mkF m 1 #[rv x, rv y, .unset] [(.ref x)])
  refine Own.Sit.callV hG S0 hx hEL (as := []) (hW 63 _ rfl) (hW 64 _ rfl) (hW 66 _ rfl) (hW 65 _ rfl) (hW 7 _ rfl) (hW 67 _ rfl) (by decide) E_x (own_coder l Z a0 H x t ([c0] : List Int32) h0 S0.old St_x) own_pdef5c10 rfl rfl (hz _ rfl) (rest := []) rfl (W := 0) (Own.hw0 rfl rfl) (hb hby own_d27_1) (by decide) (by decide) (by decide) (by decide) (fun v466 vm466 T466 h466 S466 C466 q466 => ?_)
  obtain ⟨K466, rfl⟩ := q466
  have J466 : Own.Stp Z consts_1 vm0 h0 vm466 h466 [] := ⟨K466, C466⟩
  refine hG.st (fun _ q => XS.istoreN S466.here hx rfl (hb hby own_d27_4) rfl (l' := #[rv x, rv y, iv 0]) rfl (XS.iloadN S466.here hx rfl (hb hby own_d27_5) rfl (XS.aloadN S466.here hx rfl (hb hby own_d27_6) rfl rfl q))) ?_
  show G T466 (mkF m 7 #[rv x, rv y, iv 0] [(.ref y), (.int 0)])
  have St467 := J466.str St_y nin0 nin0
  have E468 := J466.exa E_y
  refine Own.Sit.callV hG S466 hx hEL (as := []) (hW 63 _ rfl) (hW 64 _ rfl) (hW 66 _ rfl) (hW 65 _ rfl) (hW 7 _ rfl) (hW 67 _ rfl) (by decide) E468 (own_coder l Z a0 H y u ([58] : List Int32) h466 S466.old St467) own_pdef5c10 rfl rfl (hz _ rfl) (rest := [(.int 0)]) rfl (W := 1) (Own.hw0 rfl rfl) (hb hby own_d27_7) (by decide) (by decide) (by decide) (by decide) (fun v469 vm469 T469 h469 S469 C469 q469 => ?_)
  obtain ⟨K469, rfl⟩ := q469
  have J469 : Own.Stp Z consts_1 vm466 h466 vm469 h469 [] := ⟨K469, C469⟩
  refine hG.st (fun _ q => XS.icmpNo S469.here hx rfl (hb hby own_d27_10) rfl (teq (by decide : (0 : Int32) = (0 : Int32))).2 (XS.aloadN S469.here hx rfl (hb hby own_d27_13) rfl rfl q)) ?_
  show G T469 (mkF m 14 #[rv x, rv y, iv 0] [(.ref x)])
  have J470 : Own.Stp Z consts_1 vm0 h0 vm469 h469 [] := Own.Stp.trans J466 J469 (all0) all0
  have St471 := J470.str St_x nin0 nin0
  have E472 := J470.exa E_x
  refine Own.Sit.callV hG S469 hx hEL (as := []) (hW 69 _ rfl) (hW 70 _ rfl) (hW 72 _ rfl) (hW 71 _ rfl) (hW 7 _ rfl) (hW 73 _ rfl) (by decide) E472 (own_lat l Z a0 H x t ([c0] : List Int32) h469 S469.old St471) own_pdbfe1a5 rfl rfl (hz _ rfl) (rest := []) rfl (W := 0) (Own.hw0 rfl rfl) (hb hby own_d27_14) (by decide) (by decide) (by decide) (by decide) (fun v473 vm473 T473 h473 S473 C473 q473 => ?_)
  obtain ⟨K473, rfl⟩ := q473
  have J473 : Own.Stp Z consts_1 vm469 h469 vm473 h473 [] := ⟨K473, C473⟩
  refine hG.st (fun _ q => XS.ifNo S473.here hx rfl (hb hby own_d27_17) rfl ((if0 _ _).trans (feq (by decide : ¬ ((1 : Int32) = (0 : Int32)))).1) (XS.aloadN S473.here hx rfl (hb hby own_d27_20) rfl rfl q)) ?_
  show G T473 (mkF m 21 #[rv x, rv y, iv 0] [(.ref x)])
  have J474 : Own.Stp Z consts_1 vm0 h0 vm473 h473 [] := Own.Stp.trans J470 J473 (all0) all0
  have F475 := J474.fld Fv_x nin0
  refine Own.Sit.getF hG S473 hx (host := "") (Or.inl (hW 25 _ rfl)) Via.refl F475 rfl rfl (hb hby own_d27_21) (fun T476 S476 => ?_)
  refine hG.st (fun _ q => XS.aloadN S476.here hx rfl (hb hby own_d27_24) rfl rfl q) ?_
  show G T476 (mkF m 25 #[rv x, rv y, iv 0] [(.ref y), (.ref t)])
  have F477 := J474.fld Fv_y nin0
  refine Own.Sit.getF hG S476 hx (host := "") (Or.inl (hW 25 _ rfl)) Via.refl F477 rfl rfl (hb hby own_d27_25) (fun T478 S478 => ?_)
  have V479 := J474.arv A_t nin0
  have V480 := J474.arv A_u nin0
  show G T478 (mkF m 28 #[rv x, rv y, iv 0] [(.ref u), (.ref t)])
  refine Own.Sit.callS hG S478 hx hEL (as := [(.ref t), (.ref u)]) (hW 74 _ rfl) (hW 75 _ rfl) (hW 76 _ rfl) (hW 77 _ rfl) (by decide) (own_ixa1 l Z a0 H t u _ h473 S478.old V479 V480) own_pd545b04 rfl rfl (hz _ rfl) (rest := []) rfl (W := 0) (Own.hw0 rfl rfl) (hb hby own_d27_28) (by decide) (by decide) (by decide) (by decide) (fun v481 vm481 T481 h481 S481 C481 q481 => ?_)
  obtain ⟨K481, r481, rfl, hq481⟩ := q481
  have J481 : Own.Stp Z consts_1 vm473 h473 vm481 h481 [] := ⟨K481, C481⟩
  refine hG.st (fun _ q => XS.goto S481.here hx rfl (pc0 := 31) (pc' := 45) rfl (hb hby own_d27_31) (by decide) (by decide) q) ?_
  show G T481 (mkF m 45 #[rv x, rv y, iv 0] [(.int r481)])
  have J482 : Own.Stp Z consts_1 vm0 h0 vm481 h481 [] := Own.Stp.trans J474 J481 (all0) all0
  exact Own.Sit.retO hR S481 hx hret rfl (Or.inl ⟨rfl, Or.inl rfl, _, rfl⟩) (hb hby own_d27_45) (by decide) (by decide) ⟨J482.1, _, rfl, hq481.imp (fun q => ⟨q.1, (own_hasb hr_x).mp q.2⟩) (fun q => ⟨q.1, fun z => q.2 ((own_hasb hr_x).mpr z)⟩)⟩
theorem own_ef_own_ctn1 (m : MethodId) (x : Addr) (y : Addr) : entryFrame m #[(.ref x), (.ref y)] 2 = mkF m 0 #[rv x, rv y] [] := by first | (simp [entryFrame, mkF, argsToLocals, Value.category]; done) | rfl
set_option maxRecDepth 65536 in
set_option maxHeartbeats 40000000 in
theorem own_ctn1 (l : Launch) (Z : State) (a0 : Array Value) (H : own_Wld Z a0) {cw : List Jvm.Cond} (x : Addr) (y : Addr) (t u : Addr) (c0 : Int32) (h0 : Heap) (O0 : Ext Z.heap h0) (St_x : Own.Str Z h0 x t ([c0] : List Int32)) (St_y : Own.Str Z h0 y u ([58] : List Int32)) :
    Own.Con l Z consts_1 (⟨"java/lang/String", "contains", "(Ljava/lang/CharSequence;)Z"⟩ : MethodName) jdk_42_method_97_code 2 (some .boolean) cw ({ frames := 3, cells := 0, slots := 0, locals := 90 } : Room) #[(.ref x), (.ref y)] h0 (fun v h => Keep h0 h [] ∧ ∃ r, v = some (.int r) ∧ ((r = 1 ∧ own_has ([c0] : List Int32)) ∨ (r = 0 ∧ ¬ own_has ([c0] : List Int32)))) := by
  have hw := H.1
  have hW := fun (i : Nat) (w : Jvm.Cond) (e : tables_1[i]? = some w) => hw w (List.mem_of_getElem? e)
  have hCm := H.2.1
  have hSi := H.2.2.1
  have hEL := H.2.2.2
  have hWs : ∀ d ∈ StrChars.Road.words, d.before a0 Z = true := fun d hd => hw d (own_wbackV d hd)
  have hWl : ∀ d ∈ StrChars.Road.wordsLen, d.before a0 Z = true := fun d hd => hw d (own_wlenW d hd)
  have hSA : ∀ d ∈ Bundle.stringAtoms, d.before a0 Z = true := fun d hd => hw d (own_wSA d hd)
  refine Own.Con.of own_pn7a92fb hEL O0 ?_
  intro p e s m below meth c T0 G vm0 hx hby hml hret hnm hG hR S0
  have hz : ∀ L : Array Slot, L.size = 2 → L.size = c.maxLocals := fun L q => q.trans hml.symm
  rw [own_ef_own_ctn1]
  show G T0 (mkF m 0 #[rv x, rv y] [])
  refine hG.st (fun _ q => XS.aloadN S0.here hx rfl (hb hby own_d28_0) rfl rfl (XS.aloadN S0.here hx rfl (hb hby own_d28_1) rfl rfl q)) ?_
  show G T0 (mkF m 2 #[rv x, rv y] [(.ref y), (.ref x)])
  refine Own.Sit.callF hG S0 hx hEL (xi := (⟨"java/lang/CharSequence", "toString", "()Ljava/lang/String;"⟩ : MethodName)) (as := []) (hW 49 _ rfl) (hW 50 _ rfl) (hW 51 _ rfl) (hW 52 _ rfl) (hW 53 _ rfl) (hW 54 _ rfl) (hW 55 _ rfl) (hW 56 _ rfl) (hW 7 _ rfl) (hW 57 _ rfl) (by decide) St_y.exa (own_tos l Z a0 H y h0 S0.old) own_pdaf964f rfl rfl (hz _ rfl) (rest := [(.ref x)]) rfl (W := 1) (Own.hw0 rfl rfl) (hb hby own_d28_2) (by decide) (by decide) (by decide) (by decide) (fun v483 vm483 T483 h483 S483 C483 q483 => ?_)
  obtain ⟨K483, rfl⟩ := q483
  have J483 : Own.Stp Z consts_1 vm0 h0 vm483 h483 [] := ⟨K483, C483⟩
  have St484 := J483.str St_x nin0 nin0
  have St485 := J483.str St_y nin0 nin0
  show G T483 (mkF m 7 #[rv x, rv y] [(.ref y), (.ref x)])
  refine Own.Sit.callV hG S483 hx hEL (as := [(.ref y)]) (hW 58 _ rfl) (hW 59 _ rfl) (hW 61 _ rfl) (hW 60 _ rfl) (hW 7 _ rfl) (hW 62 _ rfl) (by decide) St484.exa (own_ixs1 l Z a0 H x y t u c0 h483 S483.old St484 St485) own_pdb70cb2 rfl rfl (hz _ rfl) (rest := []) rfl (W := 0) (Own.hw0 rfl rfl) (hb hby own_d28_7) (by decide) (by decide) (by decide) (by decide) (fun v486 vm486 T486 h486 S486 C486 q486 => ?_)
  obtain ⟨K486, r486, rfl, hq486⟩ := q486
  have J486 : Own.Stp Z consts_1 vm483 h483 vm486 h486 [] := ⟨K486, C486⟩
  show G T486 (mkF m 10 #[rv x, rv y] [(.int r486)])
  by_cases hc10 : r486 < (0 : Int32)
  ·
    refine hG.st (fun _ q => XS.ifYes S486.here hx rfl (pc0 := 10) (pc' := 17) rfl (hb hby own_d28_10) rfl ((if0 _ _).trans (tlt hc10).1) (by decide) (by decide) (XS.iconst S486.here hx rfl (hb hby own_d28_17) q)) ?_
    show G T486 (mkF m 18 #[rv x, rv y] [(.int 0)])
    have J487 : Own.Stp Z consts_1 vm0 h0 vm486 h486 [] := Own.Stp.trans J483 J486 (all0) all0
    exact Own.Sit.retN hR S486 hx (t := .boolean) hret (by simp) (hb hby own_d28_18) (by decide) (by decide) ⟨J487.1, 0, rfl, Or.inr ⟨rfl, own_hn hq486 hc10⟩⟩
  ·
    refine hG.st (fun _ q => XS.ifNo S486.here hx rfl (hb hby own_d28_10) rfl ((if0 _ _).trans (flt hc10).1) (XS.iconst S486.here hx rfl (hb hby own_d28_13) (XS.goto S486.here hx rfl (pc0 := 14) (pc' := 18) rfl (hb hby own_d28_14) (by decide) (by decide) q))) ?_
    show G T486 (mkF m 18 #[rv x, rv y] [(.int 1)])
    have J488 : Own.Stp Z consts_1 vm0 h0 vm486 h486 [] := Own.Stp.trans J483 J486 (all0) all0
    exact Own.Sit.retN hR S486 hx (t := .boolean) hret (by simp) (hb hby own_d28_18) (by decide) (by decide) ⟨J488.1, 1, rfl, Or.inl ⟨rfl, own_hy hq486 hc10⟩⟩
theorem own_d29_40 : decode jdk_43_method_25_code 40 = .ok (.aload_n 0, 1) := by decide +kernel
theorem own_d29_41 : decode jdk_43_method_25_code 41 = .ok (.iload 7, 2) := by decide +kernel
theorem own_d29_43 : decode jdk_43_method_25_code 43 = .ok (.baload, 1) := by decide +kernel
theorem own_d29_44 : decode jdk_43_method_25_code 44 = .ok (.iload 5, 2) := by decide +kernel
theorem own_d29_46 : decode jdk_43_method_25_code 46 = .ok (.if_icmp .eq 6, 3) := by decide +kernel
theorem own_d29_49 : decode jdk_43_method_25_code 49 = .ok (.goto (-19), 3) := by decide +kernel
theorem own_ef_own_ixb2 (m : MethodId) (t : Addr) (u : Addr) : entryFrame m #[(.ref t), (.int 2), (.ref u), (.int 1), (.int 0)] 11 = mkF m 0 #[rv t, iv 2, rv u, iv 1, iv 0, .unset, .unset, .unset, .unset, .unset, .unset] [] := by first | (simp [entryFrame, mkF, argsToLocals, Value.category]; done) | rfl
set_option maxRecDepth 65536 in
set_option maxHeartbeats 40000000 in
theorem own_ixb2 (l : Launch) (Z : State) (a0 : Array Value) (H : own_Wld Z a0) {cw : List Jvm.Cond} (t : Addr) (u : Addr) (e0 e1 : Int32) (h0 : Heap) (O0 : Ext Z.heap h0) {kt ku : ClassId} (A_t : Arv Z h0 t kt .byte (2 : Int32) [(.int e0), (.int e1)] (.int 0)) (A_u : Arv Z h0 u ku .byte (1 : Int32) [(.int 58)] (.int 0)) :
    Own.Con l Z consts_1 (⟨"java/lang/StringLatin1", "indexOf", "([BI[BII)I"⟩ : MethodName) jdk_43_method_25_code 11 (some .int) cw ({ frames := 0, cells := 0, slots := 0, locals := 0 } : Room) #[(.ref t), (.int 2), (.ref u), (.int 1), (.int 0)] h0 (fun v h => Keep h0 h [] ∧ ∃ r, v = some (.int r) ∧ ((¬ r < 0 ∧ (58 : Int32) ∈ ([e0, e1] : List Int32)) ∨ (r < 0 ∧ ¬ (58 : Int32) ∈ ([e0, e1] : List Int32)))) := by
  have hw := H.1
  have hW := fun (i : Nat) (w : Jvm.Cond) (e : tables_1[i]? = some w) => hw w (List.mem_of_getElem? e)
  have hCm := H.2.1
  have hSi := H.2.2.1
  have hEL := H.2.2.2
  have hWs : ∀ d ∈ StrChars.Road.words, d.before a0 Z = true := fun d hd => hw d (own_wbackV d hd)
  have hWl : ∀ d ∈ StrChars.Road.wordsLen, d.before a0 Z = true := fun d hd => hw d (own_wlenW d hd)
  have hSA : ∀ d ∈ Bundle.stringAtoms, d.before a0 Z = true := fun d hd => hw d (own_wSA d hd)
  refine Own.Con.of own_pn8094ca hEL O0 ?_
  intro p e s m below meth c T0 G vm0 hx hby hml hret hnm hG hR S0
  have hz : ∀ L : Array Slot, L.size = 11 → L.size = c.maxLocals := fun L q => q.trans hml.symm
  rw [own_ef_own_ixb2]
  show G T0 (mkF m 0 #[rv t, iv 2, rv u, iv 1, iv 0, .unset, .unset, .unset, .unset, .unset, .unset] [])
  refine hG.st (fun _ q => XS.aloadN S0.here hx rfl (hb hby own_d29_0) rfl rfl (XS.iconst S0.here hx rfl (hb hby own_d29_1) q)) ?_
  show G T0 (mkF m 2 #[rv t, iv 2, rv u, iv 1, iv 0, .unset, .unset, .unset, .unset, .unset, .unset] [(.int 0), (.ref u)])
  refine Own.Sit.baload hG S0 hx A_u ⟨by decide, by decide⟩ rfl rfl rfl (hb hby own_d29_2) ?_
  show G T0 (mkF m 3 #[rv t, iv 2, rv u, iv 1, iv 0, .unset, .unset, .unset, .unset, .unset, .unset] [(.int 58)])
  refine hG.st (fun _ q => XS.istore S0.here hx rfl (hb hby own_d29_3) rfl (l' := #[rv t, iv 2, rv u, iv 1, iv 0, iv 58, .unset, .unset, .unset, .unset, .unset]) rfl (XS.iloadN S0.here hx rfl (hb hby own_d29_5) rfl (XS.iloadN S0.here hx rfl (hb hby own_d29_6) rfl (XS.isub S0.here hx rfl (hb hby own_d29_7) rfl (XS.istore S0.here hx rfl (hb hby own_d29_8) rfl (l' := #[rv t, iv 2, rv u, iv 1, iv 0, iv 58, iv 1, .unset, .unset, .unset, .unset]) rfl (XS.iload S0.here hx rfl (hb hby own_d29_10) rfl q)))))) ?_
  show G T0 (mkF m 12 #[rv t, iv 2, rv u, iv 1, iv 0, iv 58, iv 1, .unset, .unset, .unset, .unset] [(.int 0)])
  refine hG.st (fun _ q => XS.istore S0.here hx rfl (hb hby own_d29_12) rfl (l' := #[rv t, iv 2, rv u, iv 1, iv 0, iv 58, iv 1, iv 0, .unset, .unset, .unset]) rfl (XS.iload S0.here hx rfl (hb hby own_d29_14) rfl (XS.iload S0.here hx rfl (hb hby own_d29_16) rfl (XS.icmpNo S0.here hx rfl (hb hby own_d29_18) rfl (flt (by decide : ¬ ((1 : Int32) < (0 : Int32)))).2.2.1 (XS.aloadN S0.here hx rfl (hb hby own_d29_21) rfl rfl (XS.iload S0.here hx rfl (hb hby own_d29_22) rfl q)))))) ?_
  show G T0 (mkF m 24 #[rv t, iv 2, rv u, iv 1, iv 0, iv 58, iv 1, iv 0, .unset, .unset, .unset] [(.int 0), (.ref t)])
  refine Own.Sit.baload hG S0 hx A_t ⟨by decide, by decide⟩ rfl rfl rfl (hb hby own_d29_24) ?_
  show G T0 (mkF m 25 #[rv t, iv 2, rv u, iv 1, iv 0, iv 58, iv 1, iv 0, .unset, .unset, .unset] [(.int e0)])
  refine hG.st (fun _ q => XS.iload S0.here hx rfl (hb hby own_d29_25) rfl q) ?_
  show G T0 (mkF m 27 #[rv t, iv 2, rv u, iv 1, iv 0, iv 58, iv 1, iv 0, .unset, .unset, .unset] [(.int 58), (.int e0)])
  by_cases hc27_489 : e0 = (58 : Int32)
  ·
    refine hG.st (fun _ q => XS.icmpYes S0.here hx rfl (pc0 := 27) (pc' := 52) rfl (hb hby own_d29_27) rfl (teq hc27_489).1 (by decide) (by decide) (XS.iload S0.here hx rfl (hb hby own_d29_52) rfl (XS.iload S0.here hx rfl (hb hby own_d29_54) rfl (XS.icmpNo S0.here hx rfl (hb hby own_d29_56) rfl (flt (by decide : ¬ ((1 : Int32) < (0 : Int32)))).2.2.1 (XS.iload S0.here hx rfl (hb hby own_d29_59) rfl (XS.iconst S0.here hx rfl (hb hby own_d29_61) q)))))) ?_
    show G T0 (mkF m 62 #[rv t, iv 2, rv u, iv 1, iv 0, iv 58, iv 1, iv 0, .unset, .unset, .unset] [(.int 1), (.int 0)])
    refine hG.st (fun _ q => XS.iadd S0.here hx rfl (hb hby own_d29_62) rfl (XS.istore S0.here hx rfl (hb hby own_d29_63) rfl (l' := #[rv t, iv 2, rv u, iv 1, iv 0, iv 58, iv 1, iv 0, iv 1, .unset, .unset]) rfl (XS.iload S0.here hx rfl (hb hby own_d29_65) rfl (XS.iloadN S0.here hx rfl (hb hby own_d29_67) rfl (XS.iadd S0.here hx rfl (hb hby own_d29_68) rfl (XS.iconst S0.here hx rfl (hb hby own_d29_69) q)))))) ?_
    show G T0 (mkF m 70 #[rv t, iv 2, rv u, iv 1, iv 0, iv 58, iv 1, iv 0, iv 1, .unset, .unset] [(.int 1), (.int 2)])
    refine hG.st (fun _ q => XS.isub S0.here hx rfl (hb hby own_d29_70) rfl (XS.istore S0.here hx rfl (hb hby own_d29_71) rfl (l' := #[rv t, iv 2, rv u, iv 1, iv 0, iv 58, iv 1, iv 0, iv 1, iv 1, .unset]) rfl (XS.iconst S0.here hx rfl (hb hby own_d29_73) (XS.istore S0.here hx rfl (hb hby own_d29_74) rfl (l' := #[rv t, iv 2, rv u, iv 1, iv 0, iv 58, iv 1, iv 0, iv 1, iv 1, iv 1]) rfl (XS.iload S0.here hx rfl (hb hby own_d29_76) rfl (XS.iload S0.here hx rfl (hb hby own_d29_78) rfl q)))))) ?_
    show G T0 (mkF m 80 #[rv t, iv 2, rv u, iv 1, iv 0, iv 58, iv 1, iv 0, iv 1, iv 1, iv 1] [(.int 1), (.int 1)])
    refine hG.st (fun _ q => XS.icmpYes S0.here hx rfl (pc0 := 80) (pc' := 103) rfl (hb hby own_d29_80) rfl (flt (by decide : ¬ ((1 : Int32) < (1 : Int32)))).2.1 (by decide) (by decide) (XS.iload S0.here hx rfl (hb hby own_d29_103) rfl (XS.iload S0.here hx rfl (hb hby own_d29_105) rfl (XS.icmpNo S0.here hx rfl (hb hby own_d29_107) rfl (teq (by decide : (1 : Int32) = (1 : Int32))).2 (XS.iload S0.here hx rfl (hb hby own_d29_110) rfl q))))) ?_
    show G T0 (mkF m 112 #[rv t, iv 2, rv u, iv 1, iv 0, iv 58, iv 1, iv 0, iv 1, iv 1, iv 1] [(.int 0)])
    exact Own.Sit.retO hR S0 hx hret rfl (Or.inl ⟨rfl, Or.inl rfl, _, rfl⟩) (hb hby own_d29_112) (by decide) (by decide) ⟨(Keep.refl _ _), _, rfl, Or.inl ⟨by decide, (List.mem_cons.mpr (Or.inl hc27_489.symm))⟩⟩
  ·
    refine hG.st (fun _ q => XS.icmpNo S0.here hx rfl (hb hby own_d29_27) rfl (feq hc27_489).1 (XS.iinc S0.here hx rfl (hb hby own_d29_30) rfl (l' := #[rv t, iv 2, rv u, iv 1, iv 0, iv 58, iv 1, iv 1, .unset, .unset, .unset]) rfl (XS.iload S0.here hx rfl (hb hby own_d29_33) rfl (XS.iload S0.here hx rfl (hb hby own_d29_35) rfl (XS.icmpNo S0.here hx rfl (hb hby own_d29_37) rfl (flt (by decide : ¬ ((1 : Int32) < (1 : Int32)))).2.2.1 (XS.aloadN S0.here hx rfl (hb hby own_d29_40) rfl rfl q)))))) ?_
    show G T0 (mkF m 41 #[rv t, iv 2, rv u, iv 1, iv 0, iv 58, iv 1, iv 1, .unset, .unset, .unset] [(.ref t)])
    refine hG.st (fun _ q => XS.iload S0.here hx rfl (hb hby own_d29_41) rfl q) ?_
    show G T0 (mkF m 43 #[rv t, iv 2, rv u, iv 1, iv 0, iv 58, iv 1, iv 1, .unset, .unset, .unset] [(.int 1), (.ref t)])
    refine Own.Sit.baload hG S0 hx A_t ⟨by decide, by decide⟩ rfl rfl rfl (hb hby own_d29_43) ?_
    show G T0 (mkF m 44 #[rv t, iv 2, rv u, iv 1, iv 0, iv 58, iv 1, iv 1, .unset, .unset, .unset] [(.int e1)])
    refine hG.st (fun _ q => XS.iload S0.here hx rfl (hb hby own_d29_44) rfl q) ?_
    show G T0 (mkF m 46 #[rv t, iv 2, rv u, iv 1, iv 0, iv 58, iv 1, iv 1, .unset, .unset, .unset] [(.int 58), (.int e1)])
    by_cases hc46_490 : e1 = (58 : Int32)
    ·
      refine hG.st (fun _ q => XS.icmpYes S0.here hx rfl (pc0 := 46) (pc' := 52) rfl (hb hby own_d29_46) rfl (teq hc46_490).1 (by decide) (by decide) (XS.iload S0.here hx rfl (hb hby own_d29_52) rfl (XS.iload S0.here hx rfl (hb hby own_d29_54) rfl (XS.icmpNo S0.here hx rfl (hb hby own_d29_56) rfl (flt (by decide : ¬ ((1 : Int32) < (1 : Int32)))).2.2.1 (XS.iload S0.here hx rfl (hb hby own_d29_59) rfl (XS.iconst S0.here hx rfl (hb hby own_d29_61) q)))))) ?_
      show G T0 (mkF m 62 #[rv t, iv 2, rv u, iv 1, iv 0, iv 58, iv 1, iv 1, .unset, .unset, .unset] [(.int 1), (.int 1)])
      refine hG.st (fun _ q => XS.iadd S0.here hx rfl (hb hby own_d29_62) rfl (XS.istore S0.here hx rfl (hb hby own_d29_63) rfl (l' := #[rv t, iv 2, rv u, iv 1, iv 0, iv 58, iv 1, iv 1, iv 2, .unset, .unset]) rfl (XS.iload S0.here hx rfl (hb hby own_d29_65) rfl (XS.iloadN S0.here hx rfl (hb hby own_d29_67) rfl (XS.iadd S0.here hx rfl (hb hby own_d29_68) rfl (XS.iconst S0.here hx rfl (hb hby own_d29_69) q)))))) ?_
      show G T0 (mkF m 70 #[rv t, iv 2, rv u, iv 1, iv 0, iv 58, iv 1, iv 1, iv 2, .unset, .unset] [(.int 1), (.int 3)])
      refine hG.st (fun _ q => XS.isub S0.here hx rfl (hb hby own_d29_70) rfl (XS.istore S0.here hx rfl (hb hby own_d29_71) rfl (l' := #[rv t, iv 2, rv u, iv 1, iv 0, iv 58, iv 1, iv 1, iv 2, iv 2, .unset]) rfl (XS.iconst S0.here hx rfl (hb hby own_d29_73) (XS.istore S0.here hx rfl (hb hby own_d29_74) rfl (l' := #[rv t, iv 2, rv u, iv 1, iv 0, iv 58, iv 1, iv 1, iv 2, iv 2, iv 1]) rfl (XS.iload S0.here hx rfl (hb hby own_d29_76) rfl (XS.iload S0.here hx rfl (hb hby own_d29_78) rfl q)))))) ?_
      show G T0 (mkF m 80 #[rv t, iv 2, rv u, iv 1, iv 0, iv 58, iv 1, iv 1, iv 2, iv 2, iv 1] [(.int 2), (.int 2)])
      refine hG.st (fun _ q => XS.icmpYes S0.here hx rfl (pc0 := 80) (pc' := 103) rfl (hb hby own_d29_80) rfl (flt (by decide : ¬ ((2 : Int32) < (2 : Int32)))).2.1 (by decide) (by decide) (XS.iload S0.here hx rfl (hb hby own_d29_103) rfl (XS.iload S0.here hx rfl (hb hby own_d29_105) rfl (XS.icmpNo S0.here hx rfl (hb hby own_d29_107) rfl (teq (by decide : (2 : Int32) = (2 : Int32))).2 (XS.iload S0.here hx rfl (hb hby own_d29_110) rfl q))))) ?_
      show G T0 (mkF m 112 #[rv t, iv 2, rv u, iv 1, iv 0, iv 58, iv 1, iv 1, iv 2, iv 2, iv 1] [(.int 1)])
      exact Own.Sit.retO hR S0 hx hret rfl (Or.inl ⟨rfl, Or.inl rfl, _, rfl⟩) (hb hby own_d29_112) (by decide) (by decide) ⟨(Keep.refl _ _), _, rfl, Or.inl ⟨by decide, (List.mem_cons_of_mem _ (List.mem_cons.mpr (Or.inl hc46_490.symm)))⟩⟩
    ·
      refine hG.st (fun _ q => XS.icmpNo S0.here hx rfl (hb hby own_d29_46) rfl (feq hc46_490).1 (XS.goto S0.here hx rfl (pc0 := 49) (pc' := 30) rfl (hb hby own_d29_49) (by decide) (by decide) (XS.iinc S0.here hx rfl (hb hby own_d29_30) rfl (l' := #[rv t, iv 2, rv u, iv 1, iv 0, iv 58, iv 1, iv 2, .unset, .unset, .unset]) rfl (XS.iload S0.here hx rfl (hb hby own_d29_33) rfl (XS.iload S0.here hx rfl (hb hby own_d29_35) rfl (XS.icmpYes S0.here hx rfl (pc0 := 37) (pc' := 52) rfl (hb hby own_d29_37) rfl (tlt (by decide : (1 : Int32) < (2 : Int32))).2.2.1 (by decide) (by decide) q)))))) ?_
      show G T0 (mkF m 52 #[rv t, iv 2, rv u, iv 1, iv 0, iv 58, iv 1, iv 2, .unset, .unset, .unset] [])
      refine hG.st (fun _ q => XS.iload S0.here hx rfl (hb hby own_d29_52) rfl (XS.iload S0.here hx rfl (hb hby own_d29_54) rfl (XS.icmpYes S0.here hx rfl (pc0 := 56) (pc' := 113) rfl (hb hby own_d29_56) rfl (tlt (by decide : (1 : Int32) < (2 : Int32))).2.2.1 (by decide) (by decide) (XS.iinc S0.here hx rfl (hb hby own_d29_113) rfl (l' := #[rv t, iv 2, rv u, iv 1, iv 0, iv 58, iv 1, iv 3, .unset, .unset, .unset]) rfl (XS.goto S0.here hx rfl (pc0 := 116) (pc' := 14) rfl (hb hby own_d29_116) (by decide) (by decide) (XS.iload S0.here hx rfl (hb hby own_d29_14) rfl q)))))) ?_
      show G T0 (mkF m 16 #[rv t, iv 2, rv u, iv 1, iv 0, iv 58, iv 1, iv 3, .unset, .unset, .unset] [(.int 3)])
      refine hG.st (fun _ q => XS.iload S0.here hx rfl (hb hby own_d29_16) rfl (XS.icmpYes S0.here hx rfl (pc0 := 18) (pc' := 119) rfl (hb hby own_d29_18) rfl (tlt (by decide : (1 : Int32) < (3 : Int32))).2.2.1 (by decide) (by decide) (XS.iconst S0.here hx rfl (hb hby own_d29_119) q))) ?_
      show G T0 (mkF m 120 #[rv t, iv 2, rv u, iv 1, iv 0, iv 58, iv 1, iv 3, .unset, .unset, .unset] [(.int (-1 : Int32))])
      exact Own.Sit.retO hR S0 hx hret rfl (Or.inl ⟨rfl, Or.inl rfl, _, rfl⟩) (hb hby own_d29_120) (by decide) (by decide) ⟨(Keep.refl _ _), _, rfl, Or.inr ⟨by decide, (fun q => (List.mem_cons.mp q).elim (fun z => hc27_489 z.symm) (fun q => (List.mem_cons.mp q).elim (fun z => hc46_490 z.symm) (fun q => absurd q List.not_mem_nil)))⟩⟩
theorem own_ef_own_ixa2 (m : MethodId) (t : Addr) (u : Addr) : entryFrame m #[(.ref t), (.ref u)] 2 = mkF m 0 #[rv t, rv u] [] := by first | (simp [entryFrame, mkF, argsToLocals, Value.category]; done) | rfl
set_option maxRecDepth 65536 in
set_option maxHeartbeats 40000000 in
theorem own_ixa2 (l : Launch) (Z : State) (a0 : Array Value) (H : own_Wld Z a0) {cw : List Jvm.Cond} (t : Addr) (u : Addr) (e0 e1 : Int32) (h0 : Heap) (O0 : Ext Z.heap h0) {kt ku : ClassId} (A_t : Arv Z h0 t kt .byte (2 : Int32) [(.int e0), (.int e1)] (.int 0)) (A_u : Arv Z h0 u ku .byte (1 : Int32) [(.int 58)] (.int 0)) :
    Own.Con l Z consts_1 (⟨"java/lang/StringLatin1", "indexOf", "([B[B)I"⟩ : MethodName) jdk_43_method_24_code 2 (some .int) cw ({ frames := 1, cells := 0, slots := 0, locals := 40 } : Room) #[(.ref t), (.ref u)] h0 (fun v h => Keep h0 h [] ∧ ∃ r, v = some (.int r) ∧ ((¬ r < 0 ∧ (58 : Int32) ∈ ([e0, e1] : List Int32)) ∨ (r < 0 ∧ ¬ (58 : Int32) ∈ ([e0, e1] : List Int32)))) := by
  have hw := H.1
  have hW := fun (i : Nat) (w : Jvm.Cond) (e : tables_1[i]? = some w) => hw w (List.mem_of_getElem? e)
  have hCm := H.2.1
  have hSi := H.2.2.1
  have hEL := H.2.2.2
  have hWs : ∀ d ∈ StrChars.Road.words, d.before a0 Z = true := fun d hd => hw d (own_wbackV d hd)
  have hWl : ∀ d ∈ StrChars.Road.wordsLen, d.before a0 Z = true := fun d hd => hw d (own_wlenW d hd)
  have hSA : ∀ d ∈ Bundle.stringAtoms, d.before a0 Z = true := fun d hd => hw d (own_wSA d hd)
  refine Own.Con.of own_pn901139 hEL O0 ?_
  intro p e s m below meth c T0 G vm0 hx hby hml hret hnm hG hR S0
  have hz : ∀ L : Array Slot, L.size = 2 → L.size = c.maxLocals := fun L q => q.trans hml.symm
  rw [own_ef_own_ixa2]
  show G T0 (mkF m 0 #[rv t, rv u] [])
  refine hG.st (fun _ q => XS.aloadN S0.here hx rfl (hb hby own_d26_0) rfl rfl q) ?_
  show G T0 (mkF m 1 #[rv t, rv u] [(.ref u)])
  refine Own.Sit.arraylength hG S0 hx A_u rfl rfl (hb hby own_d26_1) ?_
  show G T0 (mkF m 2 #[rv t, rv u] [(.int 1)])
  refine hG.st (fun _ q => XS.ifYes S0.here hx rfl (pc0 := 2) (pc' := 7) rfl (hb hby own_d26_2) rfl ((if0 _ _).trans (feq (by decide : ¬ ((1 : Int32) = (0 : Int32)))).2) (by decide) (by decide) (XS.aloadN S0.here hx rfl (hb hby own_d26_7) rfl rfl q)) ?_
  show G T0 (mkF m 8 #[rv t, rv u] [(.ref t)])
  refine Own.Sit.arraylength hG S0 hx A_t rfl rfl (hb hby own_d26_8) ?_
  show G T0 (mkF m 9 #[rv t, rv u] [(.int 2)])
  refine hG.st (fun _ q => XS.ifYes S0.here hx rfl (pc0 := 9) (pc' := 14) rfl (hb hby own_d26_9) rfl ((if0 _ _).trans (feq (by decide : ¬ ((2 : Int32) = (0 : Int32)))).2) (by decide) (by decide) (XS.aloadN S0.here hx rfl (hb hby own_d26_14) rfl rfl (XS.aloadN S0.here hx rfl (hb hby own_d26_15) rfl rfl q))) ?_
  show G T0 (mkF m 16 #[rv t, rv u] [(.ref t), (.ref t)])
  refine Own.Sit.arraylength hG S0 hx A_t rfl rfl (hb hby own_d26_16) ?_
  show G T0 (mkF m 17 #[rv t, rv u] [(.int 2), (.ref t)])
  refine hG.st (fun _ q => XS.aloadN S0.here hx rfl (hb hby own_d26_17) rfl rfl (XS.aloadN S0.here hx rfl (hb hby own_d26_18) rfl rfl q)) ?_
  show G T0 (mkF m 19 #[rv t, rv u] [(.ref u), (.ref u), (.int 2), (.ref t)])
  refine Own.Sit.arraylength hG S0 hx A_u rfl rfl (hb hby own_d26_19) ?_
  show G T0 (mkF m 20 #[rv t, rv u] [(.int 1), (.ref u), (.int 2), (.ref t)])
  refine hG.st (fun _ q => XS.iconst S0.here hx rfl (hb hby own_d26_20) q) ?_
  show G T0 (mkF m 21 #[rv t, rv u] [(.int 0), (.int 1), (.ref u), (.int 2), (.ref t)])
  refine Own.Sit.callS hG S0 hx hEL (as := [(.ref t), (.int 2), (.ref u), (.int 1), (.int 0)]) (hW 232 _ rfl) (hW 233 _ rfl) (hW 76 _ rfl) (hW 234 _ rfl) (by decide) (own_ixb2 l Z a0 H t u _ _ h0 S0.old A_t A_u) own_pd9b1595 rfl rfl (hz _ rfl) (rest := []) rfl (W := 0) (Own.hw0 rfl rfl) (hb hby own_d26_21) (by decide) (by decide) (by decide) (by decide) (fun v491 vm491 T491 h491 S491 C491 q491 => ?_)
  obtain ⟨K491, r491, rfl, hq491⟩ := q491
  have J491 : Own.Stp Z consts_1 vm0 h0 vm491 h491 [] := ⟨K491, C491⟩
  show G T491 (mkF m 24 #[rv t, rv u] [(.int r491)])
  exact Own.Sit.retO hR S491 hx hret rfl (Or.inl ⟨rfl, Or.inl rfl, _, rfl⟩) (hb hby own_d26_24) (by decide) (by decide) ⟨J491.1, _, rfl, hq491⟩
theorem own_ef_own_ixs2 (m : MethodId) (x : Addr) (y : Addr) : entryFrame m #[(.ref x), (.ref y)] 3 = mkF m 0 #[rv x, rv y, .unset] [] := by first | (simp [entryFrame, mkF, argsToLocals, Value.category]; done) | rfl
set_option maxRecDepth 65536 in
set_option maxHeartbeats 40000000 in
theorem own_ixs2 (l : Launch) (Z : State) (a0 : Array Value) (H : own_Wld Z a0) {cw : List Jvm.Cond} (x : Addr) (y : Addr) (t u : Addr) (c0 c1 : Int32) (h0 : Heap) (O0 : Ext Z.heap h0) (St_x : Own.Str Z h0 x t ([c0, c1] : List Int32)) (St_y : Own.Str Z h0 y u ([58] : List Int32)) :
    Own.Con l Z consts_1 (⟨"java/lang/String", "indexOf", "(Ljava/lang/String;)I"⟩ : MethodName) jdk_42_method_84_code 3 (some .int) cw ({ frames := 2, cells := 0, slots := 0, locals := 66 } : Room) #[(.ref x), (.ref y)] h0 (fun v h => Keep h0 h [] ∧ ∃ r, v = some (.int r) ∧ ((¬ r < 0 ∧ own_has ([c0, c1] : List Int32)) ∨ (r < 0 ∧ ¬ own_has ([c0, c1] : List Int32)))) := by
  have hw := H.1
  have hW := fun (i : Nat) (w : Jvm.Cond) (e : tables_1[i]? = some w) => hw w (List.mem_of_getElem? e)
  have hCm := H.2.1
  have hSi := H.2.2.1
  have hEL := H.2.2.2
  have hWs : ∀ d ∈ StrChars.Road.words, d.before a0 Z = true := fun d hd => hw d (own_wbackV d hd)
  have hWl : ∀ d ∈ StrChars.Road.wordsLen, d.before a0 Z = true := fun d hd => hw d (own_wlenW d hd)
  have hSA : ∀ d ∈ Bundle.stringAtoms, d.before a0 Z = true := fun d hd => hw d (own_wSA d hd)
  refine Own.Con.of own_pnfc072b hEL O0 ?_
  intro p e s m below meth c T0 G vm0 hx hby hml hret hnm hG hR S0
  have hz : ∀ L : Array Slot, L.size = 3 → L.size = c.maxLocals := fun L q => q.trans hml.symm
  rw [own_ef_own_ixs2]
  show G T0 (mkF m 0 #[rv x, rv y, .unset] [])
  obtain ⟨kb_x, E_x, Fv_x, Fc_x, A_t, hr_x, hl_x⟩ := id St_x
  obtain ⟨kb_y, E_y, Fv_y, Fc_y, A_u, hr_y, hl_y⟩ := id St_y
  refine hG.st (fun _ q => XS.aloadN S0.here hx rfl (hb hby own_d27_0) rfl rfl q) ?_
  show G T0 (mkF m 1 #[rv x, rv y, .unset] [(.ref x)])
  refine Own.Sit.callV hG S0 hx hEL (as := []) (hW 63 _ rfl) (hW 64 _ rfl) (hW 66 _ rfl) (hW 65 _ rfl) (hW 7 _ rfl) (hW 67 _ rfl) (by decide) E_x (own_coder l Z a0 H x t ([c0, c1] : List Int32) h0 S0.old St_x) own_pdef5c10 rfl rfl (hz _ rfl) (rest := []) rfl (W := 0) (Own.hw0 rfl rfl) (hb hby own_d27_1) (by decide) (by decide) (by decide) (by decide) (fun v492 vm492 T492 h492 S492 C492 q492 => ?_)
  obtain ⟨K492, rfl⟩ := q492
  have J492 : Own.Stp Z consts_1 vm0 h0 vm492 h492 [] := ⟨K492, C492⟩
  refine hG.st (fun _ q => XS.istoreN S492.here hx rfl (hb hby own_d27_4) rfl (l' := #[rv x, rv y, iv 0]) rfl (XS.iloadN S492.here hx rfl (hb hby own_d27_5) rfl (XS.aloadN S492.here hx rfl (hb hby own_d27_6) rfl rfl q))) ?_
  show G T492 (mkF m 7 #[rv x, rv y, iv 0] [(.ref y), (.int 0)])
  have St493 := J492.str St_y nin0 nin0
  have E494 := J492.exa E_y
  refine Own.Sit.callV hG S492 hx hEL (as := []) (hW 63 _ rfl) (hW 64 _ rfl) (hW 66 _ rfl) (hW 65 _ rfl) (hW 7 _ rfl) (hW 67 _ rfl) (by decide) E494 (own_coder l Z a0 H y u ([58] : List Int32) h492 S492.old St493) own_pdef5c10 rfl rfl (hz _ rfl) (rest := [(.int 0)]) rfl (W := 1) (Own.hw0 rfl rfl) (hb hby own_d27_7) (by decide) (by decide) (by decide) (by decide) (fun v495 vm495 T495 h495 S495 C495 q495 => ?_)
  obtain ⟨K495, rfl⟩ := q495
  have J495 : Own.Stp Z consts_1 vm492 h492 vm495 h495 [] := ⟨K495, C495⟩
  refine hG.st (fun _ q => XS.icmpNo S495.here hx rfl (hb hby own_d27_10) rfl (teq (by decide : (0 : Int32) = (0 : Int32))).2 (XS.aloadN S495.here hx rfl (hb hby own_d27_13) rfl rfl q)) ?_
  show G T495 (mkF m 14 #[rv x, rv y, iv 0] [(.ref x)])
  have J496 : Own.Stp Z consts_1 vm0 h0 vm495 h495 [] := Own.Stp.trans J492 J495 (all0) all0
  have St497 := J496.str St_x nin0 nin0
  have E498 := J496.exa E_x
  refine Own.Sit.callV hG S495 hx hEL (as := []) (hW 69 _ rfl) (hW 70 _ rfl) (hW 72 _ rfl) (hW 71 _ rfl) (hW 7 _ rfl) (hW 73 _ rfl) (by decide) E498 (own_lat l Z a0 H x t ([c0, c1] : List Int32) h495 S495.old St497) own_pdbfe1a5 rfl rfl (hz _ rfl) (rest := []) rfl (W := 0) (Own.hw0 rfl rfl) (hb hby own_d27_14) (by decide) (by decide) (by decide) (by decide) (fun v499 vm499 T499 h499 S499 C499 q499 => ?_)
  obtain ⟨K499, rfl⟩ := q499
  have J499 : Own.Stp Z consts_1 vm495 h495 vm499 h499 [] := ⟨K499, C499⟩
  refine hG.st (fun _ q => XS.ifNo S499.here hx rfl (hb hby own_d27_17) rfl ((if0 _ _).trans (feq (by decide : ¬ ((1 : Int32) = (0 : Int32)))).1) (XS.aloadN S499.here hx rfl (hb hby own_d27_20) rfl rfl q)) ?_
  show G T499 (mkF m 21 #[rv x, rv y, iv 0] [(.ref x)])
  have J500 : Own.Stp Z consts_1 vm0 h0 vm499 h499 [] := Own.Stp.trans J496 J499 (all0) all0
  have F501 := J500.fld Fv_x nin0
  refine Own.Sit.getF hG S499 hx (host := "") (Or.inl (hW 25 _ rfl)) Via.refl F501 rfl rfl (hb hby own_d27_21) (fun T502 S502 => ?_)
  refine hG.st (fun _ q => XS.aloadN S502.here hx rfl (hb hby own_d27_24) rfl rfl q) ?_
  show G T502 (mkF m 25 #[rv x, rv y, iv 0] [(.ref y), (.ref t)])
  have F503 := J500.fld Fv_y nin0
  refine Own.Sit.getF hG S502 hx (host := "") (Or.inl (hW 25 _ rfl)) Via.refl F503 rfl rfl (hb hby own_d27_25) (fun T504 S504 => ?_)
  have V505 := J500.arv A_t nin0
  have V506 := J500.arv A_u nin0
  show G T504 (mkF m 28 #[rv x, rv y, iv 0] [(.ref u), (.ref t)])
  refine Own.Sit.callS hG S504 hx hEL (as := [(.ref t), (.ref u)]) (hW 74 _ rfl) (hW 75 _ rfl) (hW 76 _ rfl) (hW 77 _ rfl) (by decide) (own_ixa2 l Z a0 H t u _ _ h499 S504.old V505 V506) own_pd545b04 rfl rfl (hz _ rfl) (rest := []) rfl (W := 0) (Own.hw0 rfl rfl) (hb hby own_d27_28) (by decide) (by decide) (by decide) (by decide) (fun v507 vm507 T507 h507 S507 C507 q507 => ?_)
  obtain ⟨K507, r507, rfl, hq507⟩ := q507
  have J507 : Own.Stp Z consts_1 vm499 h499 vm507 h507 [] := ⟨K507, C507⟩
  refine hG.st (fun _ q => XS.goto S507.here hx rfl (pc0 := 31) (pc' := 45) rfl (hb hby own_d27_31) (by decide) (by decide) q) ?_
  show G T507 (mkF m 45 #[rv x, rv y, iv 0] [(.int r507)])
  have J508 : Own.Stp Z consts_1 vm0 h0 vm507 h507 [] := Own.Stp.trans J500 J507 (all0) all0
  exact Own.Sit.retO hR S507 hx hret rfl (Or.inl ⟨rfl, Or.inl rfl, _, rfl⟩) (hb hby own_d27_45) (by decide) (by decide) ⟨J508.1, _, rfl, hq507.imp (fun q => ⟨q.1, (own_hasb hr_x).mp q.2⟩) (fun q => ⟨q.1, fun z => q.2 ((own_hasb hr_x).mpr z)⟩)⟩
theorem own_ef_own_ctn2 (m : MethodId) (x : Addr) (y : Addr) : entryFrame m #[(.ref x), (.ref y)] 2 = mkF m 0 #[rv x, rv y] [] := by first | (simp [entryFrame, mkF, argsToLocals, Value.category]; done) | rfl
set_option maxRecDepth 65536 in
set_option maxHeartbeats 40000000 in
theorem own_ctn2 (l : Launch) (Z : State) (a0 : Array Value) (H : own_Wld Z a0) {cw : List Jvm.Cond} (x : Addr) (y : Addr) (t u : Addr) (c0 c1 : Int32) (h0 : Heap) (O0 : Ext Z.heap h0) (St_x : Own.Str Z h0 x t ([c0, c1] : List Int32)) (St_y : Own.Str Z h0 y u ([58] : List Int32)) :
    Own.Con l Z consts_1 (⟨"java/lang/String", "contains", "(Ljava/lang/CharSequence;)Z"⟩ : MethodName) jdk_42_method_97_code 2 (some .boolean) cw ({ frames := 3, cells := 0, slots := 0, locals := 90 } : Room) #[(.ref x), (.ref y)] h0 (fun v h => Keep h0 h [] ∧ ∃ r, v = some (.int r) ∧ ((r = 1 ∧ own_has ([c0, c1] : List Int32)) ∨ (r = 0 ∧ ¬ own_has ([c0, c1] : List Int32)))) := by
  have hw := H.1
  have hW := fun (i : Nat) (w : Jvm.Cond) (e : tables_1[i]? = some w) => hw w (List.mem_of_getElem? e)
  have hCm := H.2.1
  have hSi := H.2.2.1
  have hEL := H.2.2.2
  have hWs : ∀ d ∈ StrChars.Road.words, d.before a0 Z = true := fun d hd => hw d (own_wbackV d hd)
  have hWl : ∀ d ∈ StrChars.Road.wordsLen, d.before a0 Z = true := fun d hd => hw d (own_wlenW d hd)
  have hSA : ∀ d ∈ Bundle.stringAtoms, d.before a0 Z = true := fun d hd => hw d (own_wSA d hd)
  refine Own.Con.of own_pn7a92fb hEL O0 ?_
  intro p e s m below meth c T0 G vm0 hx hby hml hret hnm hG hR S0
  have hz : ∀ L : Array Slot, L.size = 2 → L.size = c.maxLocals := fun L q => q.trans hml.symm
  rw [own_ef_own_ctn2]
  show G T0 (mkF m 0 #[rv x, rv y] [])
  refine hG.st (fun _ q => XS.aloadN S0.here hx rfl (hb hby own_d28_0) rfl rfl (XS.aloadN S0.here hx rfl (hb hby own_d28_1) rfl rfl q)) ?_
  show G T0 (mkF m 2 #[rv x, rv y] [(.ref y), (.ref x)])
  refine Own.Sit.callF hG S0 hx hEL (xi := (⟨"java/lang/CharSequence", "toString", "()Ljava/lang/String;"⟩ : MethodName)) (as := []) (hW 49 _ rfl) (hW 50 _ rfl) (hW 51 _ rfl) (hW 52 _ rfl) (hW 53 _ rfl) (hW 54 _ rfl) (hW 55 _ rfl) (hW 56 _ rfl) (hW 7 _ rfl) (hW 57 _ rfl) (by decide) St_y.exa (own_tos l Z a0 H y h0 S0.old) own_pdaf964f rfl rfl (hz _ rfl) (rest := [(.ref x)]) rfl (W := 1) (Own.hw0 rfl rfl) (hb hby own_d28_2) (by decide) (by decide) (by decide) (by decide) (fun v509 vm509 T509 h509 S509 C509 q509 => ?_)
  obtain ⟨K509, rfl⟩ := q509
  have J509 : Own.Stp Z consts_1 vm0 h0 vm509 h509 [] := ⟨K509, C509⟩
  have St510 := J509.str St_x nin0 nin0
  have St511 := J509.str St_y nin0 nin0
  show G T509 (mkF m 7 #[rv x, rv y] [(.ref y), (.ref x)])
  refine Own.Sit.callV hG S509 hx hEL (as := [(.ref y)]) (hW 58 _ rfl) (hW 59 _ rfl) (hW 61 _ rfl) (hW 60 _ rfl) (hW 7 _ rfl) (hW 62 _ rfl) (by decide) St510.exa (own_ixs2 l Z a0 H x y t u c0 c1 h509 S509.old St510 St511) own_pdb70cb2 rfl rfl (hz _ rfl) (rest := []) rfl (W := 0) (Own.hw0 rfl rfl) (hb hby own_d28_7) (by decide) (by decide) (by decide) (by decide) (fun v512 vm512 T512 h512 S512 C512 q512 => ?_)
  obtain ⟨K512, r512, rfl, hq512⟩ := q512
  have J512 : Own.Stp Z consts_1 vm509 h509 vm512 h512 [] := ⟨K512, C512⟩
  show G T512 (mkF m 10 #[rv x, rv y] [(.int r512)])
  by_cases hc10 : r512 < (0 : Int32)
  ·
    refine hG.st (fun _ q => XS.ifYes S512.here hx rfl (pc0 := 10) (pc' := 17) rfl (hb hby own_d28_10) rfl ((if0 _ _).trans (tlt hc10).1) (by decide) (by decide) (XS.iconst S512.here hx rfl (hb hby own_d28_17) q)) ?_
    show G T512 (mkF m 18 #[rv x, rv y] [(.int 0)])
    have J513 : Own.Stp Z consts_1 vm0 h0 vm512 h512 [] := Own.Stp.trans J509 J512 (all0) all0
    exact Own.Sit.retN hR S512 hx (t := .boolean) hret (by simp) (hb hby own_d28_18) (by decide) (by decide) ⟨J513.1, 0, rfl, Or.inr ⟨rfl, own_hn hq512 hc10⟩⟩
  ·
    refine hG.st (fun _ q => XS.ifNo S512.here hx rfl (hb hby own_d28_10) rfl ((if0 _ _).trans (flt hc10).1) (XS.iconst S512.here hx rfl (hb hby own_d28_13) (XS.goto S512.here hx rfl (pc0 := 14) (pc' := 18) rfl (hb hby own_d28_14) (by decide) (by decide) q))) ?_
    show G T512 (mkF m 18 #[rv x, rv y] [(.int 1)])
    have J514 : Own.Stp Z consts_1 vm0 h0 vm512 h512 [] := Own.Stp.trans J509 J512 (all0) all0
    exact Own.Sit.retN hR S512 hx (t := .boolean) hret (by simp) (hb hby own_d28_18) (by decide) (by decide) ⟨J514.1, 1, rfl, Or.inl ⟨rfl, own_hy hq512 hc10⟩⟩
theorem own_ef_own_ixb3 (m : MethodId) (t : Addr) (u : Addr) : entryFrame m #[(.ref t), (.int 3), (.ref u), (.int 1), (.int 0)] 11 = mkF m 0 #[rv t, iv 3, rv u, iv 1, iv 0, .unset, .unset, .unset, .unset, .unset, .unset] [] := by first | (simp [entryFrame, mkF, argsToLocals, Value.category]; done) | rfl
set_option maxRecDepth 65536 in
set_option maxHeartbeats 40000000 in
theorem own_ixb3 (l : Launch) (Z : State) (a0 : Array Value) (H : own_Wld Z a0) {cw : List Jvm.Cond} (t : Addr) (u : Addr) (e0 e1 e2 : Int32) (h0 : Heap) (O0 : Ext Z.heap h0) {kt ku : ClassId} (A_t : Arv Z h0 t kt .byte (3 : Int32) [(.int e0), (.int e1), (.int e2)] (.int 0)) (A_u : Arv Z h0 u ku .byte (1 : Int32) [(.int 58)] (.int 0)) :
    Own.Con l Z consts_1 (⟨"java/lang/StringLatin1", "indexOf", "([BI[BII)I"⟩ : MethodName) jdk_43_method_25_code 11 (some .int) cw ({ frames := 0, cells := 0, slots := 0, locals := 0 } : Room) #[(.ref t), (.int 3), (.ref u), (.int 1), (.int 0)] h0 (fun v h => Keep h0 h [] ∧ ∃ r, v = some (.int r) ∧ ((¬ r < 0 ∧ (58 : Int32) ∈ ([e0, e1, e2] : List Int32)) ∨ (r < 0 ∧ ¬ (58 : Int32) ∈ ([e0, e1, e2] : List Int32)))) := by
  have hw := H.1
  have hW := fun (i : Nat) (w : Jvm.Cond) (e : tables_1[i]? = some w) => hw w (List.mem_of_getElem? e)
  have hCm := H.2.1
  have hSi := H.2.2.1
  have hEL := H.2.2.2
  have hWs : ∀ d ∈ StrChars.Road.words, d.before a0 Z = true := fun d hd => hw d (own_wbackV d hd)
  have hWl : ∀ d ∈ StrChars.Road.wordsLen, d.before a0 Z = true := fun d hd => hw d (own_wlenW d hd)
  have hSA : ∀ d ∈ Bundle.stringAtoms, d.before a0 Z = true := fun d hd => hw d (own_wSA d hd)
  refine Own.Con.of own_pn8094ca hEL O0 ?_
  intro p e s m below meth c T0 G vm0 hx hby hml hret hnm hG hR S0
  have hz : ∀ L : Array Slot, L.size = 11 → L.size = c.maxLocals := fun L q => q.trans hml.symm
  rw [own_ef_own_ixb3]
  show G T0 (mkF m 0 #[rv t, iv 3, rv u, iv 1, iv 0, .unset, .unset, .unset, .unset, .unset, .unset] [])
  refine hG.st (fun _ q => XS.aloadN S0.here hx rfl (hb hby own_d29_0) rfl rfl (XS.iconst S0.here hx rfl (hb hby own_d29_1) q)) ?_
  show G T0 (mkF m 2 #[rv t, iv 3, rv u, iv 1, iv 0, .unset, .unset, .unset, .unset, .unset, .unset] [(.int 0), (.ref u)])
  refine Own.Sit.baload hG S0 hx A_u ⟨by decide, by decide⟩ rfl rfl rfl (hb hby own_d29_2) ?_
  show G T0 (mkF m 3 #[rv t, iv 3, rv u, iv 1, iv 0, .unset, .unset, .unset, .unset, .unset, .unset] [(.int 58)])
  refine hG.st (fun _ q => XS.istore S0.here hx rfl (hb hby own_d29_3) rfl (l' := #[rv t, iv 3, rv u, iv 1, iv 0, iv 58, .unset, .unset, .unset, .unset, .unset]) rfl (XS.iloadN S0.here hx rfl (hb hby own_d29_5) rfl (XS.iloadN S0.here hx rfl (hb hby own_d29_6) rfl (XS.isub S0.here hx rfl (hb hby own_d29_7) rfl (XS.istore S0.here hx rfl (hb hby own_d29_8) rfl (l' := #[rv t, iv 3, rv u, iv 1, iv 0, iv 58, iv 2, .unset, .unset, .unset, .unset]) rfl (XS.iload S0.here hx rfl (hb hby own_d29_10) rfl q)))))) ?_
  show G T0 (mkF m 12 #[rv t, iv 3, rv u, iv 1, iv 0, iv 58, iv 2, .unset, .unset, .unset, .unset] [(.int 0)])
  refine hG.st (fun _ q => XS.istore S0.here hx rfl (hb hby own_d29_12) rfl (l' := #[rv t, iv 3, rv u, iv 1, iv 0, iv 58, iv 2, iv 0, .unset, .unset, .unset]) rfl (XS.iload S0.here hx rfl (hb hby own_d29_14) rfl (XS.iload S0.here hx rfl (hb hby own_d29_16) rfl (XS.icmpNo S0.here hx rfl (hb hby own_d29_18) rfl (flt (by decide : ¬ ((2 : Int32) < (0 : Int32)))).2.2.1 (XS.aloadN S0.here hx rfl (hb hby own_d29_21) rfl rfl (XS.iload S0.here hx rfl (hb hby own_d29_22) rfl q)))))) ?_
  show G T0 (mkF m 24 #[rv t, iv 3, rv u, iv 1, iv 0, iv 58, iv 2, iv 0, .unset, .unset, .unset] [(.int 0), (.ref t)])
  refine Own.Sit.baload hG S0 hx A_t ⟨by decide, by decide⟩ rfl rfl rfl (hb hby own_d29_24) ?_
  show G T0 (mkF m 25 #[rv t, iv 3, rv u, iv 1, iv 0, iv 58, iv 2, iv 0, .unset, .unset, .unset] [(.int e0)])
  refine hG.st (fun _ q => XS.iload S0.here hx rfl (hb hby own_d29_25) rfl q) ?_
  show G T0 (mkF m 27 #[rv t, iv 3, rv u, iv 1, iv 0, iv 58, iv 2, iv 0, .unset, .unset, .unset] [(.int 58), (.int e0)])
  by_cases hc27_515 : e0 = (58 : Int32)
  ·
    refine hG.st (fun _ q => XS.icmpYes S0.here hx rfl (pc0 := 27) (pc' := 52) rfl (hb hby own_d29_27) rfl (teq hc27_515).1 (by decide) (by decide) (XS.iload S0.here hx rfl (hb hby own_d29_52) rfl (XS.iload S0.here hx rfl (hb hby own_d29_54) rfl (XS.icmpNo S0.here hx rfl (hb hby own_d29_56) rfl (flt (by decide : ¬ ((2 : Int32) < (0 : Int32)))).2.2.1 (XS.iload S0.here hx rfl (hb hby own_d29_59) rfl (XS.iconst S0.here hx rfl (hb hby own_d29_61) q)))))) ?_
    show G T0 (mkF m 62 #[rv t, iv 3, rv u, iv 1, iv 0, iv 58, iv 2, iv 0, .unset, .unset, .unset] [(.int 1), (.int 0)])
    refine hG.st (fun _ q => XS.iadd S0.here hx rfl (hb hby own_d29_62) rfl (XS.istore S0.here hx rfl (hb hby own_d29_63) rfl (l' := #[rv t, iv 3, rv u, iv 1, iv 0, iv 58, iv 2, iv 0, iv 1, .unset, .unset]) rfl (XS.iload S0.here hx rfl (hb hby own_d29_65) rfl (XS.iloadN S0.here hx rfl (hb hby own_d29_67) rfl (XS.iadd S0.here hx rfl (hb hby own_d29_68) rfl (XS.iconst S0.here hx rfl (hb hby own_d29_69) q)))))) ?_
    show G T0 (mkF m 70 #[rv t, iv 3, rv u, iv 1, iv 0, iv 58, iv 2, iv 0, iv 1, .unset, .unset] [(.int 1), (.int 2)])
    refine hG.st (fun _ q => XS.isub S0.here hx rfl (hb hby own_d29_70) rfl (XS.istore S0.here hx rfl (hb hby own_d29_71) rfl (l' := #[rv t, iv 3, rv u, iv 1, iv 0, iv 58, iv 2, iv 0, iv 1, iv 1, .unset]) rfl (XS.iconst S0.here hx rfl (hb hby own_d29_73) (XS.istore S0.here hx rfl (hb hby own_d29_74) rfl (l' := #[rv t, iv 3, rv u, iv 1, iv 0, iv 58, iv 2, iv 0, iv 1, iv 1, iv 1]) rfl (XS.iload S0.here hx rfl (hb hby own_d29_76) rfl (XS.iload S0.here hx rfl (hb hby own_d29_78) rfl q)))))) ?_
    show G T0 (mkF m 80 #[rv t, iv 3, rv u, iv 1, iv 0, iv 58, iv 2, iv 0, iv 1, iv 1, iv 1] [(.int 1), (.int 1)])
    refine hG.st (fun _ q => XS.icmpYes S0.here hx rfl (pc0 := 80) (pc' := 103) rfl (hb hby own_d29_80) rfl (flt (by decide : ¬ ((1 : Int32) < (1 : Int32)))).2.1 (by decide) (by decide) (XS.iload S0.here hx rfl (hb hby own_d29_103) rfl (XS.iload S0.here hx rfl (hb hby own_d29_105) rfl (XS.icmpNo S0.here hx rfl (hb hby own_d29_107) rfl (teq (by decide : (1 : Int32) = (1 : Int32))).2 (XS.iload S0.here hx rfl (hb hby own_d29_110) rfl q))))) ?_
    show G T0 (mkF m 112 #[rv t, iv 3, rv u, iv 1, iv 0, iv 58, iv 2, iv 0, iv 1, iv 1, iv 1] [(.int 0)])
    exact Own.Sit.retO hR S0 hx hret rfl (Or.inl ⟨rfl, Or.inl rfl, _, rfl⟩) (hb hby own_d29_112) (by decide) (by decide) ⟨(Keep.refl _ _), _, rfl, Or.inl ⟨by decide, (List.mem_cons.mpr (Or.inl hc27_515.symm))⟩⟩
  ·
    refine hG.st (fun _ q => XS.icmpNo S0.here hx rfl (hb hby own_d29_27) rfl (feq hc27_515).1 (XS.iinc S0.here hx rfl (hb hby own_d29_30) rfl (l' := #[rv t, iv 3, rv u, iv 1, iv 0, iv 58, iv 2, iv 1, .unset, .unset, .unset]) rfl (XS.iload S0.here hx rfl (hb hby own_d29_33) rfl (XS.iload S0.here hx rfl (hb hby own_d29_35) rfl (XS.icmpNo S0.here hx rfl (hb hby own_d29_37) rfl (flt (by decide : ¬ ((2 : Int32) < (1 : Int32)))).2.2.1 (XS.aloadN S0.here hx rfl (hb hby own_d29_40) rfl rfl q)))))) ?_
    show G T0 (mkF m 41 #[rv t, iv 3, rv u, iv 1, iv 0, iv 58, iv 2, iv 1, .unset, .unset, .unset] [(.ref t)])
    refine hG.st (fun _ q => XS.iload S0.here hx rfl (hb hby own_d29_41) rfl q) ?_
    show G T0 (mkF m 43 #[rv t, iv 3, rv u, iv 1, iv 0, iv 58, iv 2, iv 1, .unset, .unset, .unset] [(.int 1), (.ref t)])
    refine Own.Sit.baload hG S0 hx A_t ⟨by decide, by decide⟩ rfl rfl rfl (hb hby own_d29_43) ?_
    show G T0 (mkF m 44 #[rv t, iv 3, rv u, iv 1, iv 0, iv 58, iv 2, iv 1, .unset, .unset, .unset] [(.int e1)])
    refine hG.st (fun _ q => XS.iload S0.here hx rfl (hb hby own_d29_44) rfl q) ?_
    show G T0 (mkF m 46 #[rv t, iv 3, rv u, iv 1, iv 0, iv 58, iv 2, iv 1, .unset, .unset, .unset] [(.int 58), (.int e1)])
    by_cases hc46_516 : e1 = (58 : Int32)
    ·
      refine hG.st (fun _ q => XS.icmpYes S0.here hx rfl (pc0 := 46) (pc' := 52) rfl (hb hby own_d29_46) rfl (teq hc46_516).1 (by decide) (by decide) (XS.iload S0.here hx rfl (hb hby own_d29_52) rfl (XS.iload S0.here hx rfl (hb hby own_d29_54) rfl (XS.icmpNo S0.here hx rfl (hb hby own_d29_56) rfl (flt (by decide : ¬ ((2 : Int32) < (1 : Int32)))).2.2.1 (XS.iload S0.here hx rfl (hb hby own_d29_59) rfl (XS.iconst S0.here hx rfl (hb hby own_d29_61) q)))))) ?_
      show G T0 (mkF m 62 #[rv t, iv 3, rv u, iv 1, iv 0, iv 58, iv 2, iv 1, .unset, .unset, .unset] [(.int 1), (.int 1)])
      refine hG.st (fun _ q => XS.iadd S0.here hx rfl (hb hby own_d29_62) rfl (XS.istore S0.here hx rfl (hb hby own_d29_63) rfl (l' := #[rv t, iv 3, rv u, iv 1, iv 0, iv 58, iv 2, iv 1, iv 2, .unset, .unset]) rfl (XS.iload S0.here hx rfl (hb hby own_d29_65) rfl (XS.iloadN S0.here hx rfl (hb hby own_d29_67) rfl (XS.iadd S0.here hx rfl (hb hby own_d29_68) rfl (XS.iconst S0.here hx rfl (hb hby own_d29_69) q)))))) ?_
      show G T0 (mkF m 70 #[rv t, iv 3, rv u, iv 1, iv 0, iv 58, iv 2, iv 1, iv 2, .unset, .unset] [(.int 1), (.int 3)])
      refine hG.st (fun _ q => XS.isub S0.here hx rfl (hb hby own_d29_70) rfl (XS.istore S0.here hx rfl (hb hby own_d29_71) rfl (l' := #[rv t, iv 3, rv u, iv 1, iv 0, iv 58, iv 2, iv 1, iv 2, iv 2, .unset]) rfl (XS.iconst S0.here hx rfl (hb hby own_d29_73) (XS.istore S0.here hx rfl (hb hby own_d29_74) rfl (l' := #[rv t, iv 3, rv u, iv 1, iv 0, iv 58, iv 2, iv 1, iv 2, iv 2, iv 1]) rfl (XS.iload S0.here hx rfl (hb hby own_d29_76) rfl (XS.iload S0.here hx rfl (hb hby own_d29_78) rfl q)))))) ?_
      show G T0 (mkF m 80 #[rv t, iv 3, rv u, iv 1, iv 0, iv 58, iv 2, iv 1, iv 2, iv 2, iv 1] [(.int 2), (.int 2)])
      refine hG.st (fun _ q => XS.icmpYes S0.here hx rfl (pc0 := 80) (pc' := 103) rfl (hb hby own_d29_80) rfl (flt (by decide : ¬ ((2 : Int32) < (2 : Int32)))).2.1 (by decide) (by decide) (XS.iload S0.here hx rfl (hb hby own_d29_103) rfl (XS.iload S0.here hx rfl (hb hby own_d29_105) rfl (XS.icmpNo S0.here hx rfl (hb hby own_d29_107) rfl (teq (by decide : (2 : Int32) = (2 : Int32))).2 (XS.iload S0.here hx rfl (hb hby own_d29_110) rfl q))))) ?_
      show G T0 (mkF m 112 #[rv t, iv 3, rv u, iv 1, iv 0, iv 58, iv 2, iv 1, iv 2, iv 2, iv 1] [(.int 1)])
      exact Own.Sit.retO hR S0 hx hret rfl (Or.inl ⟨rfl, Or.inl rfl, _, rfl⟩) (hb hby own_d29_112) (by decide) (by decide) ⟨(Keep.refl _ _), _, rfl, Or.inl ⟨by decide, (List.mem_cons_of_mem _ (List.mem_cons.mpr (Or.inl hc46_516.symm)))⟩⟩
    ·
      refine hG.st (fun _ q => XS.icmpNo S0.here hx rfl (hb hby own_d29_46) rfl (feq hc46_516).1 (XS.goto S0.here hx rfl (pc0 := 49) (pc' := 30) rfl (hb hby own_d29_49) (by decide) (by decide) (XS.iinc S0.here hx rfl (hb hby own_d29_30) rfl (l' := #[rv t, iv 3, rv u, iv 1, iv 0, iv 58, iv 2, iv 2, .unset, .unset, .unset]) rfl (XS.iload S0.here hx rfl (hb hby own_d29_33) rfl (XS.iload S0.here hx rfl (hb hby own_d29_35) rfl (XS.icmpNo S0.here hx rfl (hb hby own_d29_37) rfl (flt (by decide : ¬ ((2 : Int32) < (2 : Int32)))).2.2.1 q)))))) ?_
      show G T0 (mkF m 40 #[rv t, iv 3, rv u, iv 1, iv 0, iv 58, iv 2, iv 2, .unset, .unset, .unset] [])
      refine hG.st (fun _ q => XS.aloadN S0.here hx rfl (hb hby own_d29_40) rfl rfl (XS.iload S0.here hx rfl (hb hby own_d29_41) rfl q)) ?_
      show G T0 (mkF m 43 #[rv t, iv 3, rv u, iv 1, iv 0, iv 58, iv 2, iv 2, .unset, .unset, .unset] [(.int 2), (.ref t)])
      refine Own.Sit.baload hG S0 hx A_t ⟨by decide, by decide⟩ rfl rfl rfl (hb hby own_d29_43) ?_
      show G T0 (mkF m 44 #[rv t, iv 3, rv u, iv 1, iv 0, iv 58, iv 2, iv 2, .unset, .unset, .unset] [(.int e2)])
      refine hG.st (fun _ q => XS.iload S0.here hx rfl (hb hby own_d29_44) rfl q) ?_
      show G T0 (mkF m 46 #[rv t, iv 3, rv u, iv 1, iv 0, iv 58, iv 2, iv 2, .unset, .unset, .unset] [(.int 58), (.int e2)])
      by_cases hc46_517 : e2 = (58 : Int32)
      ·
        refine hG.st (fun _ q => XS.icmpYes S0.here hx rfl (pc0 := 46) (pc' := 52) rfl (hb hby own_d29_46) rfl (teq hc46_517).1 (by decide) (by decide) (XS.iload S0.here hx rfl (hb hby own_d29_52) rfl (XS.iload S0.here hx rfl (hb hby own_d29_54) rfl (XS.icmpNo S0.here hx rfl (hb hby own_d29_56) rfl (flt (by decide : ¬ ((2 : Int32) < (2 : Int32)))).2.2.1 (XS.iload S0.here hx rfl (hb hby own_d29_59) rfl (XS.iconst S0.here hx rfl (hb hby own_d29_61) q)))))) ?_
        show G T0 (mkF m 62 #[rv t, iv 3, rv u, iv 1, iv 0, iv 58, iv 2, iv 2, .unset, .unset, .unset] [(.int 1), (.int 2)])
        refine hG.st (fun _ q => XS.iadd S0.here hx rfl (hb hby own_d29_62) rfl (XS.istore S0.here hx rfl (hb hby own_d29_63) rfl (l' := #[rv t, iv 3, rv u, iv 1, iv 0, iv 58, iv 2, iv 2, iv 3, .unset, .unset]) rfl (XS.iload S0.here hx rfl (hb hby own_d29_65) rfl (XS.iloadN S0.here hx rfl (hb hby own_d29_67) rfl (XS.iadd S0.here hx rfl (hb hby own_d29_68) rfl (XS.iconst S0.here hx rfl (hb hby own_d29_69) q)))))) ?_
        show G T0 (mkF m 70 #[rv t, iv 3, rv u, iv 1, iv 0, iv 58, iv 2, iv 2, iv 3, .unset, .unset] [(.int 1), (.int 4)])
        refine hG.st (fun _ q => XS.isub S0.here hx rfl (hb hby own_d29_70) rfl (XS.istore S0.here hx rfl (hb hby own_d29_71) rfl (l' := #[rv t, iv 3, rv u, iv 1, iv 0, iv 58, iv 2, iv 2, iv 3, iv 3, .unset]) rfl (XS.iconst S0.here hx rfl (hb hby own_d29_73) (XS.istore S0.here hx rfl (hb hby own_d29_74) rfl (l' := #[rv t, iv 3, rv u, iv 1, iv 0, iv 58, iv 2, iv 2, iv 3, iv 3, iv 1]) rfl (XS.iload S0.here hx rfl (hb hby own_d29_76) rfl (XS.iload S0.here hx rfl (hb hby own_d29_78) rfl q)))))) ?_
        show G T0 (mkF m 80 #[rv t, iv 3, rv u, iv 1, iv 0, iv 58, iv 2, iv 2, iv 3, iv 3, iv 1] [(.int 3), (.int 3)])
        refine hG.st (fun _ q => XS.icmpYes S0.here hx rfl (pc0 := 80) (pc' := 103) rfl (hb hby own_d29_80) rfl (flt (by decide : ¬ ((3 : Int32) < (3 : Int32)))).2.1 (by decide) (by decide) (XS.iload S0.here hx rfl (hb hby own_d29_103) rfl (XS.iload S0.here hx rfl (hb hby own_d29_105) rfl (XS.icmpNo S0.here hx rfl (hb hby own_d29_107) rfl (teq (by decide : (3 : Int32) = (3 : Int32))).2 (XS.iload S0.here hx rfl (hb hby own_d29_110) rfl q))))) ?_
        show G T0 (mkF m 112 #[rv t, iv 3, rv u, iv 1, iv 0, iv 58, iv 2, iv 2, iv 3, iv 3, iv 1] [(.int 2)])
        exact Own.Sit.retO hR S0 hx hret rfl (Or.inl ⟨rfl, Or.inl rfl, _, rfl⟩) (hb hby own_d29_112) (by decide) (by decide) ⟨(Keep.refl _ _), _, rfl, Or.inl ⟨by decide, (List.mem_cons_of_mem _ (List.mem_cons_of_mem _ (List.mem_cons.mpr (Or.inl hc46_517.symm))))⟩⟩
      ·
        refine hG.st (fun _ q => XS.icmpNo S0.here hx rfl (hb hby own_d29_46) rfl (feq hc46_517).1 (XS.goto S0.here hx rfl (pc0 := 49) (pc' := 30) rfl (hb hby own_d29_49) (by decide) (by decide) (XS.iinc S0.here hx rfl (hb hby own_d29_30) rfl (l' := #[rv t, iv 3, rv u, iv 1, iv 0, iv 58, iv 2, iv 3, .unset, .unset, .unset]) rfl (XS.iload S0.here hx rfl (hb hby own_d29_33) rfl (XS.iload S0.here hx rfl (hb hby own_d29_35) rfl (XS.icmpYes S0.here hx rfl (pc0 := 37) (pc' := 52) rfl (hb hby own_d29_37) rfl (tlt (by decide : (2 : Int32) < (3 : Int32))).2.2.1 (by decide) (by decide) q)))))) ?_
        show G T0 (mkF m 52 #[rv t, iv 3, rv u, iv 1, iv 0, iv 58, iv 2, iv 3, .unset, .unset, .unset] [])
        refine hG.st (fun _ q => XS.iload S0.here hx rfl (hb hby own_d29_52) rfl (XS.iload S0.here hx rfl (hb hby own_d29_54) rfl (XS.icmpYes S0.here hx rfl (pc0 := 56) (pc' := 113) rfl (hb hby own_d29_56) rfl (tlt (by decide : (2 : Int32) < (3 : Int32))).2.2.1 (by decide) (by decide) (XS.iinc S0.here hx rfl (hb hby own_d29_113) rfl (l' := #[rv t, iv 3, rv u, iv 1, iv 0, iv 58, iv 2, iv 4, .unset, .unset, .unset]) rfl (XS.goto S0.here hx rfl (pc0 := 116) (pc' := 14) rfl (hb hby own_d29_116) (by decide) (by decide) (XS.iload S0.here hx rfl (hb hby own_d29_14) rfl q)))))) ?_
        show G T0 (mkF m 16 #[rv t, iv 3, rv u, iv 1, iv 0, iv 58, iv 2, iv 4, .unset, .unset, .unset] [(.int 4)])
        refine hG.st (fun _ q => XS.iload S0.here hx rfl (hb hby own_d29_16) rfl (XS.icmpYes S0.here hx rfl (pc0 := 18) (pc' := 119) rfl (hb hby own_d29_18) rfl (tlt (by decide : (2 : Int32) < (4 : Int32))).2.2.1 (by decide) (by decide) (XS.iconst S0.here hx rfl (hb hby own_d29_119) q))) ?_
        show G T0 (mkF m 120 #[rv t, iv 3, rv u, iv 1, iv 0, iv 58, iv 2, iv 4, .unset, .unset, .unset] [(.int (-1 : Int32))])
        exact Own.Sit.retO hR S0 hx hret rfl (Or.inl ⟨rfl, Or.inl rfl, _, rfl⟩) (hb hby own_d29_120) (by decide) (by decide) ⟨(Keep.refl _ _), _, rfl, Or.inr ⟨by decide, (fun q => (List.mem_cons.mp q).elim (fun z => hc27_515 z.symm) (fun q => (List.mem_cons.mp q).elim (fun z => hc46_516 z.symm) (fun q => (List.mem_cons.mp q).elim (fun z => hc46_517 z.symm) (fun q => absurd q List.not_mem_nil))))⟩⟩
theorem own_ef_own_ixa3 (m : MethodId) (t : Addr) (u : Addr) : entryFrame m #[(.ref t), (.ref u)] 2 = mkF m 0 #[rv t, rv u] [] := by first | (simp [entryFrame, mkF, argsToLocals, Value.category]; done) | rfl
set_option maxRecDepth 65536 in
set_option maxHeartbeats 40000000 in
theorem own_ixa3 (l : Launch) (Z : State) (a0 : Array Value) (H : own_Wld Z a0) {cw : List Jvm.Cond} (t : Addr) (u : Addr) (e0 e1 e2 : Int32) (h0 : Heap) (O0 : Ext Z.heap h0) {kt ku : ClassId} (A_t : Arv Z h0 t kt .byte (3 : Int32) [(.int e0), (.int e1), (.int e2)] (.int 0)) (A_u : Arv Z h0 u ku .byte (1 : Int32) [(.int 58)] (.int 0)) :
    Own.Con l Z consts_1 (⟨"java/lang/StringLatin1", "indexOf", "([B[B)I"⟩ : MethodName) jdk_43_method_24_code 2 (some .int) cw ({ frames := 1, cells := 0, slots := 0, locals := 40 } : Room) #[(.ref t), (.ref u)] h0 (fun v h => Keep h0 h [] ∧ ∃ r, v = some (.int r) ∧ ((¬ r < 0 ∧ (58 : Int32) ∈ ([e0, e1, e2] : List Int32)) ∨ (r < 0 ∧ ¬ (58 : Int32) ∈ ([e0, e1, e2] : List Int32)))) := by
  have hw := H.1
  have hW := fun (i : Nat) (w : Jvm.Cond) (e : tables_1[i]? = some w) => hw w (List.mem_of_getElem? e)
  have hCm := H.2.1
  have hSi := H.2.2.1
  have hEL := H.2.2.2
  have hWs : ∀ d ∈ StrChars.Road.words, d.before a0 Z = true := fun d hd => hw d (own_wbackV d hd)
  have hWl : ∀ d ∈ StrChars.Road.wordsLen, d.before a0 Z = true := fun d hd => hw d (own_wlenW d hd)
  have hSA : ∀ d ∈ Bundle.stringAtoms, d.before a0 Z = true := fun d hd => hw d (own_wSA d hd)
  refine Own.Con.of own_pn901139 hEL O0 ?_
  intro p e s m below meth c T0 G vm0 hx hby hml hret hnm hG hR S0
  have hz : ∀ L : Array Slot, L.size = 2 → L.size = c.maxLocals := fun L q => q.trans hml.symm
  rw [own_ef_own_ixa3]
  show G T0 (mkF m 0 #[rv t, rv u] [])
  refine hG.st (fun _ q => XS.aloadN S0.here hx rfl (hb hby own_d26_0) rfl rfl q) ?_
  show G T0 (mkF m 1 #[rv t, rv u] [(.ref u)])
  refine Own.Sit.arraylength hG S0 hx A_u rfl rfl (hb hby own_d26_1) ?_
  show G T0 (mkF m 2 #[rv t, rv u] [(.int 1)])
  refine hG.st (fun _ q => XS.ifYes S0.here hx rfl (pc0 := 2) (pc' := 7) rfl (hb hby own_d26_2) rfl ((if0 _ _).trans (feq (by decide : ¬ ((1 : Int32) = (0 : Int32)))).2) (by decide) (by decide) (XS.aloadN S0.here hx rfl (hb hby own_d26_7) rfl rfl q)) ?_
  show G T0 (mkF m 8 #[rv t, rv u] [(.ref t)])
  refine Own.Sit.arraylength hG S0 hx A_t rfl rfl (hb hby own_d26_8) ?_
  show G T0 (mkF m 9 #[rv t, rv u] [(.int 3)])
  refine hG.st (fun _ q => XS.ifYes S0.here hx rfl (pc0 := 9) (pc' := 14) rfl (hb hby own_d26_9) rfl ((if0 _ _).trans (feq (by decide : ¬ ((3 : Int32) = (0 : Int32)))).2) (by decide) (by decide) (XS.aloadN S0.here hx rfl (hb hby own_d26_14) rfl rfl (XS.aloadN S0.here hx rfl (hb hby own_d26_15) rfl rfl q))) ?_
  show G T0 (mkF m 16 #[rv t, rv u] [(.ref t), (.ref t)])
  refine Own.Sit.arraylength hG S0 hx A_t rfl rfl (hb hby own_d26_16) ?_
  show G T0 (mkF m 17 #[rv t, rv u] [(.int 3), (.ref t)])
  refine hG.st (fun _ q => XS.aloadN S0.here hx rfl (hb hby own_d26_17) rfl rfl (XS.aloadN S0.here hx rfl (hb hby own_d26_18) rfl rfl q)) ?_
  show G T0 (mkF m 19 #[rv t, rv u] [(.ref u), (.ref u), (.int 3), (.ref t)])
  refine Own.Sit.arraylength hG S0 hx A_u rfl rfl (hb hby own_d26_19) ?_
  show G T0 (mkF m 20 #[rv t, rv u] [(.int 1), (.ref u), (.int 3), (.ref t)])
  refine hG.st (fun _ q => XS.iconst S0.here hx rfl (hb hby own_d26_20) q) ?_
  show G T0 (mkF m 21 #[rv t, rv u] [(.int 0), (.int 1), (.ref u), (.int 3), (.ref t)])
  refine Own.Sit.callS hG S0 hx hEL (as := [(.ref t), (.int 3), (.ref u), (.int 1), (.int 0)]) (hW 232 _ rfl) (hW 233 _ rfl) (hW 76 _ rfl) (hW 234 _ rfl) (by decide) (own_ixb3 l Z a0 H t u _ _ _ h0 S0.old A_t A_u) own_pd9b1595 rfl rfl (hz _ rfl) (rest := []) rfl (W := 0) (Own.hw0 rfl rfl) (hb hby own_d26_21) (by decide) (by decide) (by decide) (by decide) (fun v518 vm518 T518 h518 S518 C518 q518 => ?_)
  obtain ⟨K518, r518, rfl, hq518⟩ := q518
  have J518 : Own.Stp Z consts_1 vm0 h0 vm518 h518 [] := ⟨K518, C518⟩
  show G T518 (mkF m 24 #[rv t, rv u] [(.int r518)])
  exact Own.Sit.retO hR S518 hx hret rfl (Or.inl ⟨rfl, Or.inl rfl, _, rfl⟩) (hb hby own_d26_24) (by decide) (by decide) ⟨J518.1, _, rfl, hq518⟩
theorem own_ef_own_ixs3 (m : MethodId) (x : Addr) (y : Addr) : entryFrame m #[(.ref x), (.ref y)] 3 = mkF m 0 #[rv x, rv y, .unset] [] := by first | (simp [entryFrame, mkF, argsToLocals, Value.category]; done) | rfl
set_option maxRecDepth 65536 in
set_option maxHeartbeats 40000000 in
theorem own_ixs3 (l : Launch) (Z : State) (a0 : Array Value) (H : own_Wld Z a0) {cw : List Jvm.Cond} (x : Addr) (y : Addr) (t u : Addr) (c0 c1 c2 : Int32) (h0 : Heap) (O0 : Ext Z.heap h0) (St_x : Own.Str Z h0 x t ([c0, c1, c2] : List Int32)) (St_y : Own.Str Z h0 y u ([58] : List Int32)) :
    Own.Con l Z consts_1 (⟨"java/lang/String", "indexOf", "(Ljava/lang/String;)I"⟩ : MethodName) jdk_42_method_84_code 3 (some .int) cw ({ frames := 2, cells := 0, slots := 0, locals := 66 } : Room) #[(.ref x), (.ref y)] h0 (fun v h => Keep h0 h [] ∧ ∃ r, v = some (.int r) ∧ ((¬ r < 0 ∧ own_has ([c0, c1, c2] : List Int32)) ∨ (r < 0 ∧ ¬ own_has ([c0, c1, c2] : List Int32)))) := by
  have hw := H.1
  have hW := fun (i : Nat) (w : Jvm.Cond) (e : tables_1[i]? = some w) => hw w (List.mem_of_getElem? e)
  have hCm := H.2.1
  have hSi := H.2.2.1
  have hEL := H.2.2.2
  have hWs : ∀ d ∈ StrChars.Road.words, d.before a0 Z = true := fun d hd => hw d (own_wbackV d hd)
  have hWl : ∀ d ∈ StrChars.Road.wordsLen, d.before a0 Z = true := fun d hd => hw d (own_wlenW d hd)
  have hSA : ∀ d ∈ Bundle.stringAtoms, d.before a0 Z = true := fun d hd => hw d (own_wSA d hd)
  refine Own.Con.of own_pnfc072b hEL O0 ?_
  intro p e s m below meth c T0 G vm0 hx hby hml hret hnm hG hR S0
  have hz : ∀ L : Array Slot, L.size = 3 → L.size = c.maxLocals := fun L q => q.trans hml.symm
  rw [own_ef_own_ixs3]
  show G T0 (mkF m 0 #[rv x, rv y, .unset] [])
  obtain ⟨kb_x, E_x, Fv_x, Fc_x, A_t, hr_x, hl_x⟩ := id St_x
  obtain ⟨kb_y, E_y, Fv_y, Fc_y, A_u, hr_y, hl_y⟩ := id St_y
  refine hG.st (fun _ q => XS.aloadN S0.here hx rfl (hb hby own_d27_0) rfl rfl q) ?_
  show G T0 (mkF m 1 #[rv x, rv y, .unset] [(.ref x)])
  refine Own.Sit.callV hG S0 hx hEL (as := []) (hW 63 _ rfl) (hW 64 _ rfl) (hW 66 _ rfl) (hW 65 _ rfl) (hW 7 _ rfl) (hW 67 _ rfl) (by decide) E_x (own_coder l Z a0 H x t ([c0, c1, c2] : List Int32) h0 S0.old St_x) own_pdef5c10 rfl rfl (hz _ rfl) (rest := []) rfl (W := 0) (Own.hw0 rfl rfl) (hb hby own_d27_1) (by decide) (by decide) (by decide) (by decide) (fun v519 vm519 T519 h519 S519 C519 q519 => ?_)
  obtain ⟨K519, rfl⟩ := q519
  have J519 : Own.Stp Z consts_1 vm0 h0 vm519 h519 [] := ⟨K519, C519⟩
  refine hG.st (fun _ q => XS.istoreN S519.here hx rfl (hb hby own_d27_4) rfl (l' := #[rv x, rv y, iv 0]) rfl (XS.iloadN S519.here hx rfl (hb hby own_d27_5) rfl (XS.aloadN S519.here hx rfl (hb hby own_d27_6) rfl rfl q))) ?_
  show G T519 (mkF m 7 #[rv x, rv y, iv 0] [(.ref y), (.int 0)])
  have St520 := J519.str St_y nin0 nin0
  have E521 := J519.exa E_y
  refine Own.Sit.callV hG S519 hx hEL (as := []) (hW 63 _ rfl) (hW 64 _ rfl) (hW 66 _ rfl) (hW 65 _ rfl) (hW 7 _ rfl) (hW 67 _ rfl) (by decide) E521 (own_coder l Z a0 H y u ([58] : List Int32) h519 S519.old St520) own_pdef5c10 rfl rfl (hz _ rfl) (rest := [(.int 0)]) rfl (W := 1) (Own.hw0 rfl rfl) (hb hby own_d27_7) (by decide) (by decide) (by decide) (by decide) (fun v522 vm522 T522 h522 S522 C522 q522 => ?_)
  obtain ⟨K522, rfl⟩ := q522
  have J522 : Own.Stp Z consts_1 vm519 h519 vm522 h522 [] := ⟨K522, C522⟩
  refine hG.st (fun _ q => XS.icmpNo S522.here hx rfl (hb hby own_d27_10) rfl (teq (by decide : (0 : Int32) = (0 : Int32))).2 (XS.aloadN S522.here hx rfl (hb hby own_d27_13) rfl rfl q)) ?_
  show G T522 (mkF m 14 #[rv x, rv y, iv 0] [(.ref x)])
  have J523 : Own.Stp Z consts_1 vm0 h0 vm522 h522 [] := Own.Stp.trans J519 J522 (all0) all0
  have St524 := J523.str St_x nin0 nin0
  have E525 := J523.exa E_x
  refine Own.Sit.callV hG S522 hx hEL (as := []) (hW 69 _ rfl) (hW 70 _ rfl) (hW 72 _ rfl) (hW 71 _ rfl) (hW 7 _ rfl) (hW 73 _ rfl) (by decide) E525 (own_lat l Z a0 H x t ([c0, c1, c2] : List Int32) h522 S522.old St524) own_pdbfe1a5 rfl rfl (hz _ rfl) (rest := []) rfl (W := 0) (Own.hw0 rfl rfl) (hb hby own_d27_14) (by decide) (by decide) (by decide) (by decide) (fun v526 vm526 T526 h526 S526 C526 q526 => ?_)
  obtain ⟨K526, rfl⟩ := q526
  have J526 : Own.Stp Z consts_1 vm522 h522 vm526 h526 [] := ⟨K526, C526⟩
  refine hG.st (fun _ q => XS.ifNo S526.here hx rfl (hb hby own_d27_17) rfl ((if0 _ _).trans (feq (by decide : ¬ ((1 : Int32) = (0 : Int32)))).1) (XS.aloadN S526.here hx rfl (hb hby own_d27_20) rfl rfl q)) ?_
  show G T526 (mkF m 21 #[rv x, rv y, iv 0] [(.ref x)])
  have J527 : Own.Stp Z consts_1 vm0 h0 vm526 h526 [] := Own.Stp.trans J523 J526 (all0) all0
  have F528 := J527.fld Fv_x nin0
  refine Own.Sit.getF hG S526 hx (host := "") (Or.inl (hW 25 _ rfl)) Via.refl F528 rfl rfl (hb hby own_d27_21) (fun T529 S529 => ?_)
  refine hG.st (fun _ q => XS.aloadN S529.here hx rfl (hb hby own_d27_24) rfl rfl q) ?_
  show G T529 (mkF m 25 #[rv x, rv y, iv 0] [(.ref y), (.ref t)])
  have F530 := J527.fld Fv_y nin0
  refine Own.Sit.getF hG S529 hx (host := "") (Or.inl (hW 25 _ rfl)) Via.refl F530 rfl rfl (hb hby own_d27_25) (fun T531 S531 => ?_)
  have V532 := J527.arv A_t nin0
  have V533 := J527.arv A_u nin0
  show G T531 (mkF m 28 #[rv x, rv y, iv 0] [(.ref u), (.ref t)])
  refine Own.Sit.callS hG S531 hx hEL (as := [(.ref t), (.ref u)]) (hW 74 _ rfl) (hW 75 _ rfl) (hW 76 _ rfl) (hW 77 _ rfl) (by decide) (own_ixa3 l Z a0 H t u _ _ _ h526 S531.old V532 V533) own_pd545b04 rfl rfl (hz _ rfl) (rest := []) rfl (W := 0) (Own.hw0 rfl rfl) (hb hby own_d27_28) (by decide) (by decide) (by decide) (by decide) (fun v534 vm534 T534 h534 S534 C534 q534 => ?_)
  obtain ⟨K534, r534, rfl, hq534⟩ := q534
  have J534 : Own.Stp Z consts_1 vm526 h526 vm534 h534 [] := ⟨K534, C534⟩
  refine hG.st (fun _ q => XS.goto S534.here hx rfl (pc0 := 31) (pc' := 45) rfl (hb hby own_d27_31) (by decide) (by decide) q) ?_
  show G T534 (mkF m 45 #[rv x, rv y, iv 0] [(.int r534)])
  have J535 : Own.Stp Z consts_1 vm0 h0 vm534 h534 [] := Own.Stp.trans J527 J534 (all0) all0
  exact Own.Sit.retO hR S534 hx hret rfl (Or.inl ⟨rfl, Or.inl rfl, _, rfl⟩) (hb hby own_d27_45) (by decide) (by decide) ⟨J535.1, _, rfl, hq534.imp (fun q => ⟨q.1, (own_hasb hr_x).mp q.2⟩) (fun q => ⟨q.1, fun z => q.2 ((own_hasb hr_x).mpr z)⟩)⟩
theorem own_ef_own_ctn3 (m : MethodId) (x : Addr) (y : Addr) : entryFrame m #[(.ref x), (.ref y)] 2 = mkF m 0 #[rv x, rv y] [] := by first | (simp [entryFrame, mkF, argsToLocals, Value.category]; done) | rfl
set_option maxRecDepth 65536 in
set_option maxHeartbeats 40000000 in
theorem own_ctn3 (l : Launch) (Z : State) (a0 : Array Value) (H : own_Wld Z a0) {cw : List Jvm.Cond} (x : Addr) (y : Addr) (t u : Addr) (c0 c1 c2 : Int32) (h0 : Heap) (O0 : Ext Z.heap h0) (St_x : Own.Str Z h0 x t ([c0, c1, c2] : List Int32)) (St_y : Own.Str Z h0 y u ([58] : List Int32)) :
    Own.Con l Z consts_1 (⟨"java/lang/String", "contains", "(Ljava/lang/CharSequence;)Z"⟩ : MethodName) jdk_42_method_97_code 2 (some .boolean) cw ({ frames := 3, cells := 0, slots := 0, locals := 90 } : Room) #[(.ref x), (.ref y)] h0 (fun v h => Keep h0 h [] ∧ ∃ r, v = some (.int r) ∧ ((r = 1 ∧ own_has ([c0, c1, c2] : List Int32)) ∨ (r = 0 ∧ ¬ own_has ([c0, c1, c2] : List Int32)))) := by
  have hw := H.1
  have hW := fun (i : Nat) (w : Jvm.Cond) (e : tables_1[i]? = some w) => hw w (List.mem_of_getElem? e)
  have hCm := H.2.1
  have hSi := H.2.2.1
  have hEL := H.2.2.2
  have hWs : ∀ d ∈ StrChars.Road.words, d.before a0 Z = true := fun d hd => hw d (own_wbackV d hd)
  have hWl : ∀ d ∈ StrChars.Road.wordsLen, d.before a0 Z = true := fun d hd => hw d (own_wlenW d hd)
  have hSA : ∀ d ∈ Bundle.stringAtoms, d.before a0 Z = true := fun d hd => hw d (own_wSA d hd)
  refine Own.Con.of own_pn7a92fb hEL O0 ?_
  intro p e s m below meth c T0 G vm0 hx hby hml hret hnm hG hR S0
  have hz : ∀ L : Array Slot, L.size = 2 → L.size = c.maxLocals := fun L q => q.trans hml.symm
  rw [own_ef_own_ctn3]
  show G T0 (mkF m 0 #[rv x, rv y] [])
  refine hG.st (fun _ q => XS.aloadN S0.here hx rfl (hb hby own_d28_0) rfl rfl (XS.aloadN S0.here hx rfl (hb hby own_d28_1) rfl rfl q)) ?_
  show G T0 (mkF m 2 #[rv x, rv y] [(.ref y), (.ref x)])
  refine Own.Sit.callF hG S0 hx hEL (xi := (⟨"java/lang/CharSequence", "toString", "()Ljava/lang/String;"⟩ : MethodName)) (as := []) (hW 49 _ rfl) (hW 50 _ rfl) (hW 51 _ rfl) (hW 52 _ rfl) (hW 53 _ rfl) (hW 54 _ rfl) (hW 55 _ rfl) (hW 56 _ rfl) (hW 7 _ rfl) (hW 57 _ rfl) (by decide) St_y.exa (own_tos l Z a0 H y h0 S0.old) own_pdaf964f rfl rfl (hz _ rfl) (rest := [(.ref x)]) rfl (W := 1) (Own.hw0 rfl rfl) (hb hby own_d28_2) (by decide) (by decide) (by decide) (by decide) (fun v536 vm536 T536 h536 S536 C536 q536 => ?_)
  obtain ⟨K536, rfl⟩ := q536
  have J536 : Own.Stp Z consts_1 vm0 h0 vm536 h536 [] := ⟨K536, C536⟩
  have St537 := J536.str St_x nin0 nin0
  have St538 := J536.str St_y nin0 nin0
  show G T536 (mkF m 7 #[rv x, rv y] [(.ref y), (.ref x)])
  refine Own.Sit.callV hG S536 hx hEL (as := [(.ref y)]) (hW 58 _ rfl) (hW 59 _ rfl) (hW 61 _ rfl) (hW 60 _ rfl) (hW 7 _ rfl) (hW 62 _ rfl) (by decide) St537.exa (own_ixs3 l Z a0 H x y t u c0 c1 c2 h536 S536.old St537 St538) own_pdb70cb2 rfl rfl (hz _ rfl) (rest := []) rfl (W := 0) (Own.hw0 rfl rfl) (hb hby own_d28_7) (by decide) (by decide) (by decide) (by decide) (fun v539 vm539 T539 h539 S539 C539 q539 => ?_)
  obtain ⟨K539, r539, rfl, hq539⟩ := q539
  have J539 : Own.Stp Z consts_1 vm536 h536 vm539 h539 [] := ⟨K539, C539⟩
  show G T539 (mkF m 10 #[rv x, rv y] [(.int r539)])
  by_cases hc10 : r539 < (0 : Int32)
  ·
    refine hG.st (fun _ q => XS.ifYes S539.here hx rfl (pc0 := 10) (pc' := 17) rfl (hb hby own_d28_10) rfl ((if0 _ _).trans (tlt hc10).1) (by decide) (by decide) (XS.iconst S539.here hx rfl (hb hby own_d28_17) q)) ?_
    show G T539 (mkF m 18 #[rv x, rv y] [(.int 0)])
    have J540 : Own.Stp Z consts_1 vm0 h0 vm539 h539 [] := Own.Stp.trans J536 J539 (all0) all0
    exact Own.Sit.retN hR S539 hx (t := .boolean) hret (by simp) (hb hby own_d28_18) (by decide) (by decide) ⟨J540.1, 0, rfl, Or.inr ⟨rfl, own_hn hq539 hc10⟩⟩
  ·
    refine hG.st (fun _ q => XS.ifNo S539.here hx rfl (hb hby own_d28_10) rfl ((if0 _ _).trans (flt hc10).1) (XS.iconst S539.here hx rfl (hb hby own_d28_13) (XS.goto S539.here hx rfl (pc0 := 14) (pc' := 18) rfl (hb hby own_d28_14) (by decide) (by decide) q))) ?_
    show G T539 (mkF m 18 #[rv x, rv y] [(.int 1)])
    have J541 : Own.Stp Z consts_1 vm0 h0 vm539 h539 [] := Own.Stp.trans J536 J539 (all0) all0
    exact Own.Sit.retN hR S539 hx (t := .boolean) hret (by simp) (hb hby own_d28_18) (by decide) (by decide) ⟨J541.1, 1, rfl, Or.inl ⟨rfl, own_hy hq539 hc10⟩⟩
theorem own_ctn (l : Launch) (Z : State) (a0 : Array Value) (H : own_Wld Z a0) {cw : List Jvm.Cond} (x y t u : Addr) (cs : List Int32) (h0 : Heap) (O0 : Ext Z.heap h0) (hl3 : cs.length ≤ 3) (St_x : Own.Str Z h0 x t cs) (St_y : Own.Str Z h0 y u ([58] : List Int32)) :
    Own.Con l Z consts_1 (⟨"java/lang/String", "contains", "(Ljava/lang/CharSequence;)Z"⟩ : MethodName) jdk_42_method_97_code 2 (some .boolean) cw ({ frames := 3, cells := 0, slots := 0, locals := 90 } : Room) #[(.ref x), (.ref y)] h0 (fun v h => Keep h0 h [] ∧ ∃ r, v = some (.int r) ∧ ((r = 1 ∧ own_has cs) ∨ (r = 0 ∧ ¬ own_has cs))) := by
  rcases cs with _ | ⟨c0, _ | ⟨c1, _ | ⟨c2, _ | ⟨c3, r⟩⟩⟩⟩
  · exact own_ctn0 l Z a0 H x y t u h0 O0 St_x St_y
  · exact own_ctn1 l Z a0 H x y t u c0 h0 O0 St_x St_y
  · exact own_ctn2 l Z a0 H x y t u c0 c1 h0 O0 St_x St_y
  · exact own_ctn3 l Z a0 H x y t u c0 c1 c2 h0 O0 St_x St_y
  · exact absurd hl3 (by simp)
theorem own_narC {z : Int32} (h : ¬ z < 0 ∧ ¬ (255 : Int32) < z) : nar .char z = z := by
  have e0 : (0 : Int32).toInt = 0 := rfl
  have e1 : (255 : Int32).toInt = 255 := rfl
  simp only [Int32.lt_iff_toInt_lt, e0, e1] at h
  exact own_nar (by omega) (by omega)
def own_mk (n a b c : Int32) : List Int32 := if n = 0 then [] else if n = 1 then [a] else if n = 2 then [a, b] else [a, b, c]
theorem own_mk0 {n a b c : Int32} (h : n = 0) : [] = own_mk n a b c := (if_pos h).symm
theorem own_mk1 {n a b c : Int32} (h : ¬ n = 0) (h1 : n = 1) : [a] = own_mk n a b c := ((if_neg h).trans (if_pos h1)).symm
theorem own_mk2 {n a b c : Int32} (h : ¬ n = 0) (h1 : ¬ n = 1) (h2 : n = 2) : [a, b] = own_mk n a b c := ((if_neg h).trans ((if_neg h1).trans (if_pos h2))).symm
theorem own_mk3 {n a b c : Int32} (h : ¬ n = 0) (h1 : ¬ n = 1) (h2 : ¬ n = 2) : [a, b, c] = own_mk n a b c := ((if_neg h).trans ((if_neg h1).trans (if_neg h2))).symm
theorem own_ra {a b : List Int32} (h : ∀ c ∈ a, ¬ c < 0 ∧ ¬ (255 : Int32) < c) (q : ∀ c ∈ b, ¬ c < 0 ∧ ¬ (255 : Int32) < c) : ∀ c ∈ a ++ b, ¬ c < 0 ∧ ¬ (255 : Int32) < c := fun c hc => (List.mem_append.mp hc).elim (h c) (q c)
theorem own_rn : ∀ c ∈ ([] : List Int32), ¬ c < 0 ∧ ¬ (255 : Int32) < c := fun c hc => absurd hc List.not_mem_nil
def own_host (cs : List Int32) : List Int32 := if (58 : Int32) ∈ cs then ([91] ++ cs) ++ [93] else cs
theorem own_hostY {cs : List Int32} (h : own_has cs) : ((([] : List Int32) ++ ([91] : List Int32)) ++ cs) ++ ([93] : List Int32) = own_host cs := (if_pos (show (58 : Int32) ∈ cs from h)).symm
theorem own_hostN {cs : List Int32} (h : ¬ own_has cs) : cs = own_host cs := (if_neg (show ¬ (58 : Int32) ∈ cs from h)).symm
theorem own_hostl {cs : List Int32} (h : cs.length ≤ 3) : (own_host cs).length ≤ 5 := by
  unfold own_host
  split
  · simp only [List.length_append, List.length_cons, List.length_nil]; omega
  · omega
theorem own_hostr {cs : List Int32} (h : ∀ c ∈ cs, ¬ c < 0 ∧ ¬ (255 : Int32) < c) : ∀ c ∈ own_host cs, ¬ c < 0 ∧ ¬ (255 : Int32) < c := by
  unfold own_host
  split
  · exact own_ra (own_ra (by decide) h) (by decide)
  · exact h
theorem own_c1 {r : Int32} {P : Prop} (h : (r = 1 ∧ P) ∨ (r = 0 ∧ ¬ P)) (q : ¬ r = 0) : P := h.elim (fun z => z.2) (fun z => absurd z.1 q)
theorem own_c0 {r : Int32} {P : Prop} (h : (r = 1 ∧ P) ∨ (r = 0 ∧ ¬ P)) (q : r = 0) : ¬ P := h.elim (fun z => absurd (z.1.symm.trans q) (by decide)) (fun z => z.2)
theorem own_rd {a : Int32} (h0 : 0 ≤ a.toInt) (h1 : a.toInt ≤ 9) : ¬ ((48 : Int32) + a) < 0 ∧ ¬ (255 : Int32) < (48 : Int32) + a := by
  have e0 : (0 : Int32).toInt = 0 := rfl
  have e1 : (255 : Int32).toInt = 255 := rfl
  rw [Int32.lt_iff_toInt_lt, Int32.lt_iff_toInt_lt, own_d48 h0 h1, e0, e1]; omega
theorem own_rd1 {p : Int32} (h : 0 ≤ p.toInt ∧ p.toInt ≤ 65535) : ∀ c ∈ own_dig1 p, ¬ c < 0 ∧ ¬ (255 : Int32) < c := fun c hc => by
  have q := own_p h.1
  cases List.mem_singleton.mp hc; exact own_rd (by omega) (by omega)
theorem own_rd5 {p : Int32} (h : 0 ≤ p.toInt ∧ p.toInt ≤ 65535) : ∀ c ∈ own_dig5 p, ¬ c < 0 ∧ ¬ (255 : Int32) < c := fun c hc => by
  have q := own_p h.1
  rcases List.mem_cons.mp hc with rfl | hc
  · exact own_rd (by omega) (by omega)
  rcases List.mem_cons.mp hc with rfl | hc
  · exact own_rd (by omega) (by omega)
  rcases List.mem_cons.mp hc with rfl | hc
  · exact own_rd (by omega) (by omega)
  rcases List.mem_cons.mp hc with rfl | hc
  · exact own_rd (by omega) (by omega)
  · cases List.mem_singleton.mp hc; exact own_rd (by omega) (by omega)
theorem own_rd4 {p : Int32} (h : 0 ≤ p.toInt ∧ p.toInt ≤ 65535) : ∀ c ∈ own_dig4 p, ¬ c < 0 ∧ ¬ (255 : Int32) < c := fun c hc => own_rd5 h c (List.mem_cons_of_mem _ hc)
theorem own_rd3 {p : Int32} (h : 0 ≤ p.toInt ∧ p.toInt ≤ 65535) : ∀ c ∈ own_dig3 p, ¬ c < 0 ∧ ¬ (255 : Int32) < c := fun c hc => own_rd4 h c (List.mem_cons_of_mem _ hc)
theorem own_rd2 {p : Int32} (h : 0 ≤ p.toInt ∧ p.toInt ≤ 65535) : ∀ c ∈ own_dig2 p, ¬ c < 0 ∧ ¬ (255 : Int32) < c := fun c hc => own_rd3 h c (List.mem_cons_of_mem _ hc)
def own_dig (p : Int32) : List Int32 := if p.toInt ≤ 9 then own_dig1 p else if p.toInt ≤ 99 then own_dig2 p else if p.toInt ≤ 999 then own_dig3 p else if p.toInt ≤ 9999 then own_dig4 p else own_dig5 p
theorem own_dE1 {p : Int32} (h : 0 ≤ p.toInt ∧ p.toInt ≤ 9) : own_dig p = own_dig1 p := if_pos h.2
theorem own_dE2 {p : Int32} (h : 10 ≤ p.toInt ∧ p.toInt ≤ 99) : own_dig p = own_dig2 p := (if_neg (by omega)).trans (if_pos h.2)
theorem own_dE3 {p : Int32} (h : 100 ≤ p.toInt ∧ p.toInt ≤ 999) : own_dig p = own_dig3 p := (if_neg (by omega)).trans ((if_neg (by omega)).trans (if_pos h.2))
theorem own_dE4 {p : Int32} (h : 1000 ≤ p.toInt ∧ p.toInt ≤ 9999) : own_dig p = own_dig4 p := (if_neg (by omega)).trans ((if_neg (by omega)).trans ((if_neg (by omega)).trans (if_pos h.2)))
theorem own_dE5 {p : Int32} (h : 10000 ≤ p.toInt ∧ p.toInt ≤ 65535) : own_dig p = own_dig5 p := (if_neg (by omega)).trans ((if_neg (by omega)).trans ((if_neg (by omega)).trans (if_neg (by omega))))
theorem own_pr {p : Int32} (h : 0 ≤ p.toInt ∧ p.toInt ≤ 65535) : (0 ≤ p.toInt ∧ p.toInt ≤ 9) ∨ (10 ≤ p.toInt ∧ p.toInt ≤ 99) ∨ (100 ≤ p.toInt ∧ p.toInt ≤ 999) ∨ (1000 ≤ p.toInt ∧ p.toInt ≤ 9999) ∨ (10000 ≤ p.toInt ∧ p.toInt ≤ 65535) := by omega
theorem own_rg {cs : List Int32} (hr : ∀ c ∈ cs, ¬ c < 0 ∧ ¬ (255 : Int32) < c) (i : Nat) : ¬ cs.getD i 0 < 0 ∧ ¬ (255 : Int32) < cs.getD i 0 := by
  rw [List.getD_eq_getElem?_getD]
  by_cases h : i < cs.length
  · rw [List.getElem?_eq_getElem h]; exact hr _ (List.getElem_mem h)
  · rw [List.getElem?_eq_none (by omega)]; decide
theorem own_bvat (cs : List Int32) (i : Nat) : (own_bv cs).getD i (.int 0) = .int ((cs.getD i 0).toInt8.toInt32) := by
  rw [List.getD_eq_getElem?_getD, List.getD_eq_getElem?_getD, own_bv, List.getElem?_map, List.getElem?_map]
  cases cs[i]? <;> rfl
theorem own_ma (y : Int32) : (y &&& (255 : Int32)).toInt = y.toInt % 256 := by
  have h : (y.toBitVec &&& 255#32).toNat = y.toBitVec.toNat % 256 := by
    rw [BitVec.toNat_and]; exact Nat.and_two_pow_sub_one_eq_mod _ 8
  have l := y.toBitVec.isLt
  show (y.toBitVec &&& 255#32).toInt = y.toBitVec.toInt % 256
  rw [BitVec.toInt_eq_toNat_cond, BitVec.toInt_eq_toNat_cond, h]
  split <;> split <;> omega
theorem own_ca {x : Int32} (h : ¬ x < 0 ∧ ¬ (255 : Int32) < x) : nar .char ((x.toInt8.toInt32 &&& (255 : Int32)).toUInt32.toUInt16.toUInt32.toInt32) = x := by
  have e : x.toInt8.toInt32 &&& (255 : Int32) = x := by
    have e0 : (0 : Int32).toInt = 0 := rfl
    have e1 : (255 : Int32).toInt = 255 := rfl
    have g := h
    simp only [Int32.lt_iff_toInt_lt, e0, e1] at g
    apply Int32.toInt_inj.mp
    have a := c_i2b x
    rw [own_ma]
    omega
  rw [e]
  have f : x.toUInt32.toUInt16.toUInt32.toInt32 = x := own_narC h
  rw [f]
  exact own_narC h
theorem own_emat {es : List Int32} {d : Value} {i : Nat} (h : i < es.length) : (es.map Value.int).getD i d = .int (es.getD i 0) := by
  rw [List.getD_eq_getElem?_getD, List.getD_eq_getElem?_getD, List.getElem?_map, List.getElem?_eq_getElem h]; rfl
theorem own_take {es cs : List Int32} (h : es.take cs.length = cs) {i : Nat} (hi : i < cs.length) : cs.getD i 0 = es.getD i 0 := by
  have q : (es.take cs.length).getD i 0 = es.getD i 0 := by
    rw [List.getD_eq_getElem?_getD, List.getD_eq_getElem?_getD, List.getElem?_take_of_lt hi]
  rw [h] at q; exact q
theorem own_ltn {j : Int32} {n : Nat} (hn : n ≤ 4000) (h : ¬ j < 0) (q : j < Int32.ofNat n) : j.toNatClampNeg < n := by
  have e0 : (0 : Int32).toInt = 0 := rfl
  rw [Int32.lt_iff_toInt_lt, e0] at h
  rw [Int32.lt_iff_toInt_lt, own_ti hn] at q
  simp only [Int32.toNatClampNeg]; omega
theorem own_pn425291 : plainFor (⟨"java/lang/String", "<init>", "([CIILjava/lang/Void;)V"⟩ : MethodName) = true := by first | exact plainFor_of_name (by first | (simp [plainName, overriddenIn]; done) | decide +kernel) | decide +kernel
theorem own_d30_0 : decode jdk_42_method_149_code 0 = .ok (.aload_n 0, 1) := by decide +kernel
theorem own_d30_1 : decode jdk_42_method_149_code 1 = .ok (.invokespecial 1, 3) := by decide +kernel
theorem own_d30_4 : decode jdk_42_method_149_code 4 = .ok (.iload_n 3, 1) := by decide +kernel
theorem own_d30_5 : decode jdk_42_method_149_code 5 = .ok (.ifCond .ne 22, 3) := by decide +kernel
theorem own_d30_8 : decode jdk_42_method_149_code 8 = .ok (.aload_n 0, 1) := by decide +kernel
theorem own_d30_9 : decode jdk_42_method_149_code 9 = .ok (.ldc 7, 2) := by decide +kernel
theorem own_d30_11 : decode jdk_42_method_149_code 11 = .ok (.getfield 9, 3) := by decide +kernel
theorem own_d30_14 : decode jdk_42_method_149_code 14 = .ok (.putfield 9, 3) := by decide +kernel
theorem own_d30_17 : decode jdk_42_method_149_code 17 = .ok (.aload_n 0, 1) := by decide +kernel
theorem own_d30_18 : decode jdk_42_method_149_code 18 = .ok (.ldc 7, 2) := by decide +kernel
theorem own_d30_20 : decode jdk_42_method_149_code 20 = .ok (.getfield 15, 3) := by decide +kernel
theorem own_d30_23 : decode jdk_42_method_149_code 23 = .ok (.putfield 15, 3) := by decide +kernel
theorem own_d30_26 : decode jdk_42_method_149_code 26 = .ok (.return_, 1) := by decide +kernel
theorem own_ef_own_emp4 (m : MethodId) (x : Addr) (b : Addr) : entryFrame m #[(.ref x), (.ref b), (.int 0), (.int 0), .null] 6 = mkF m 0 #[rv x, rv b, iv 0, iv 0, .val .null, .unset] [] := by first | (simp [entryFrame, mkF, argsToLocals, Value.category]; done) | rfl
set_option maxRecDepth 65536 in
set_option maxHeartbeats 40000000 in
theorem own_emp4 (l : Launch) (Z : State) (a0 : Array Value) (H : own_Wld Z a0) {cw : List Jvm.Cond} (x : Addr) (b : Addr) (h0 : Heap) (O0 : Ext Z.heap h0) (g_x : Z.heap.size ≤ x) (E_x : Exa Z h0 x "java/lang/String") (Fv : Fld Z h0 x "java/lang/String" "value" "[B" .null) (Fc : Fld Z h0 x "java/lang/String" "coder" "B" (.int 0)) :
    Own.Con l Z consts_1 (⟨"java/lang/String", "<init>", "([CIILjava/lang/Void;)V"⟩ : MethodName) jdk_42_method_149_code 6 none cw ({ frames := 1, cells := 4, slots := 8, locals := 12 } : Room) #[(.ref x), (.ref b), (.int 0), (.int 0), .null] h0 (fun v h => Keep h0 h [x] ∧ v = none ∧ ∃ t, Own.Str Z h x t []) := by
  have hw := H.1
  have hW := fun (i : Nat) (w : Jvm.Cond) (e : tables_1[i]? = some w) => hw w (List.mem_of_getElem? e)
  have hCm := H.2.1
  have hSi := H.2.2.1
  have hEL := H.2.2.2
  have hWs : ∀ d ∈ StrChars.Road.words, d.before a0 Z = true := fun d hd => hw d (own_wbackV d hd)
  have hWl : ∀ d ∈ StrChars.Road.wordsLen, d.before a0 Z = true := fun d hd => hw d (own_wlenW d hd)
  have hSA : ∀ d ∈ Bundle.stringAtoms, d.before a0 Z = true := fun d hd => hw d (own_wSA d hd)
  refine Own.Con.of own_pn425291 hEL O0 ?_
  intro p e s m below meth c T0 G vm0 hx hby hml hret hnm hG hR S0
  have hz : ∀ L : Array Slot, L.size = 6 → L.size = c.maxLocals := fun L q => q.trans hml.symm
  rw [own_ef_own_emp4]
  show G T0 (mkF m 0 #[rv x, rv b, iv 0, iv 0, .val .null, .unset] [])
  have sf_x : Safe Z consts_1 vm0 h0 x := Own.Safe.blank S0.warm.alike E_x Fv (hW 6 _ rfl)
  refine hG.st (fun _ q => XS.aloadN S0.here hx rfl (hb hby own_d30_0) rfl rfl q) ?_
  show G T0 (mkF m 1 #[rv x, rv b, iv 0, iv 0, .val .null, .unset] [(.ref x)])
  refine Own.Sit.initO hG S0 hx (hW 16 _ rfl) (hW 17 _ rfl) (hW 18 _ rfl) rfl (hz _ rfl) rfl (hb hby own_d30_1) (by decide) (W := 0) (Own.hw0 rfl rfl) (by decide) (fun T542 S542 => ?_)
  refine hG.st (fun _ q => XS.iloadN S542.here hx rfl (hb hby own_d30_4) rfl (XS.ifNo S542.here hx rfl (hb hby own_d30_5) rfl ((if0 _ _).trans (teq (by decide : (0 : Int32) = (0 : Int32))).2) (XS.aloadN S542.here hx rfl (hb hby own_d30_8) rfl rfl q))) ?_
  show G T542 (mkF m 9 #[rv x, rv b, iv 0, iv 0, .val .null, .unset] [(.ref x)])
  refine Own.Sit.ldc hG S542 hx hEL (hW 19 _ rfl) hSA (by decide) (cs := ([] : List Int32)) ⟨by decide, by decide⟩ (by decide) (by decide) rfl (hb hby own_d30_9) (nn := 0) (by decide) (by decide) (by decide) (by decide) (fun vm543 T543 h543 x543 y543 S543 J543 St543 L543 => ?_)
  show G T543 (mkF m 11 #[rv x, rv b, iv 0, iv 0, .val .null, .unset] [(.ref x543), (.ref x)])
  obtain ⟨kb544, Ea544, Fa544, Fb544, Ab544, -, -⟩ := id St543
  refine Own.Sit.getF hG S543 hx (host := "") (Or.inl (hW 25 _ rfl)) Via.refl Fa544 rfl rfl (hb hby own_d30_11) (fun T545 S545 => ?_)
  have F546 := J543.fld Fv nin0
  have E547 := J543.exa E_x
  have Sf548 := J543.safe E_x.lt sf_x
  have F550 := J543.fld Fc nin0
  show G T545 (mkF m 14 #[rv x, rv b, iv 0, iv 0, .val .null, .unset] [(.ref y543), (.ref x)])
  refine Own.Sit.putF hG S545 hx (host := "") (Or.inl (hW 25 _ rfl)) Via.refl F546 E547 (Or.inr ⟨(hW 21 _ rfl), rfl, hnm⟩) (hW 6 _ rfl) (ty := (.array .byte)) (by decide) rfl rfl g_x Sf548 rfl rfl (hb hby own_d30_14) (fun T549 h549 S549 J549 W549 F549 => ?_)
  have F551 := Fld.other W549 F550 (Or.inr (slot_ne (Or.inr (hW 22 _ rfl)) (Or.inr (hW 21 _ rfl)) (by decide) (t := .byte) (by decide) (t' := (.array .byte)) (by decide)))
  refine hG.st (fun _ q => XS.aloadN S549.here hx rfl (hb hby own_d30_17) rfl rfl q) ?_
  show G T549 (mkF m 18 #[rv x, rv b, iv 0, iv 0, .val .null, .unset] [(.ref x)])
  refine Own.Sit.ldc hG S549 hx hEL (hW 19 _ rfl) hSA (by decide) (cs := ([] : List Int32)) ⟨by decide, by decide⟩ (by decide) (by decide) rfl (hb hby own_d30_18) (nn := 0) (by decide) (by decide) (by decide) (by decide) (fun vm552 T552 h552 x552 y552 S552 J552 St552 L552 => ?_)
  show G T552 (mkF m 20 #[rv x, rv b, iv 0, iv 0, .val .null, .unset] [(.ref x552), (.ref x)])
  obtain ⟨kb553, Ea553, Fa553, Fb553, Ab553, -, -⟩ := id St552
  refine Own.Sit.getF hG S552 hx (host := "") (Or.inl (hW 26 _ rfl)) Via.refl Fb553 rfl rfl (hb hby own_d30_20) (fun T554 S554 => ?_)
  have F555 := J552.fld F551 nin0
  have J556 : Own.Stp Z consts_1 vm543 h543 vm552 h552 [x] := Own.Stp.trans J549 J552 (allS (List.mem_of_getElem? (i := 0) rfl) (all0)) all0
  have E557 := J556.exa E547
  have Sf558 := J556.safe (Nat.lt_of_lt_of_le E_x.lt J543.1.1) Sf548
  have F560 := J552.fld F549 nin0
  show G T554 (mkF m 23 #[rv x, rv b, iv 0, iv 0, .val .null, .unset] [(.int 0), (.ref x)])
  refine Own.Sit.putF hG S554 hx (host := "") (Or.inl (hW 26 _ rfl)) Via.refl F555 E557 (Or.inr ⟨(hW 22 _ rfl), rfl, hnm⟩) (hW 6 _ rfl) (ty := .byte) (by decide) rfl rfl g_x Sf558 rfl rfl (hb hby own_d30_23) (fun T559 h559 S559 J559 W559 F559 => ?_)
  have F561 := Fld.other W559 F560 (Or.inr (slot_ne (Or.inr (hW 21 _ rfl)) (Or.inr (hW 22 _ rfl)) (by decide) (t := (.array .byte)) (by decide) (t' := .byte) (by decide)))
  have E562 := J559.exa E557
  have J563 : Own.Stp Z consts_1 vm543 h543 vm552 h559 [x] := Own.Stp.trans J556 J559 (allS (List.mem_of_getElem? (i := 0) rfl) (all0)) (allS (Or.inl (List.mem_of_getElem? (i := 0) rfl)) all0)
  have V564 := J563.arv Ab544 (ninS (Ne.symm (Exa.neArv (J543.exa E_x) Ab544 (hW 6 _ rfl))) nin0)
  have J565 : Own.Stp Z consts_1 vm0 h0 vm543 h549 [x] := Own.Stp.trans J543 J549 (all0) (allS (Or.inl (List.mem_of_getElem? (i := 0) rfl)) all0)
  have J566 : Own.Stp Z consts_1 vm0 h0 vm552 h552 [x] := Own.Stp.trans J565 J552 (allS (List.mem_of_getElem? (i := 0) rfl) (all0)) all0
  have J567 : Own.Stp Z consts_1 vm0 h0 vm552 h559 [x] := Own.Stp.trans J566 J559 (allS (List.mem_of_getElem? (i := 0) rfl) (all0)) (allS (Or.inl (List.mem_of_getElem? (i := 0) rfl)) all0)
  show G T559 (mkF m 26 #[rv x, rv b, iv 0, iv 0, .val .null, .unset] [])
  exact Own.Sit.ret0 hR S559 hx hret (hb hby own_d30_26) (by decide) (by decide) ⟨J567.1, rfl, y543, kb544, E562, F561, F559, V564, by decide, by decide⟩
theorem own_pnc164e3 : plainFor (⟨"java/lang/String", "<init>", "([C)V"⟩ : MethodName) = true := by first | exact plainFor_of_name (by first | (simp [plainName, overriddenIn]; done) | decide +kernel) | decide +kernel
theorem own_pd2d3984 : parseMethodDescriptor "([CIILjava/lang/Void;)V" = some ⟨[(.array .char), .int, .int, (.object "java/lang/Void")], none⟩ := by decide +kernel
theorem own_d31_0 : decode jdk_42_method_3_code 0 = .ok (.aload_n 0, 1) := by decide +kernel
theorem own_d31_1 : decode jdk_42_method_3_code 1 = .ok (.aload_n 1, 1) := by decide +kernel
theorem own_d31_2 : decode jdk_42_method_3_code 2 = .ok (.iconst 0, 1) := by decide +kernel
theorem own_d31_3 : decode jdk_42_method_3_code 3 = .ok (.aload_n 1, 1) := by decide +kernel
theorem own_d31_4 : decode jdk_42_method_3_code 4 = .ok (.arraylength, 1) := by decide +kernel
theorem own_d31_5 : decode jdk_42_method_3_code 5 = .ok (.aconst_null, 1) := by decide +kernel
theorem own_d31_6 : decode jdk_42_method_3_code 6 = .ok (.invokespecial 27, 3) := by decide +kernel
theorem own_d31_9 : decode jdk_42_method_3_code 9 = .ok (.return_, 1) := by decide +kernel
theorem own_ef_own_emp1 (m : MethodId) (x : Addr) (b : Addr) : entryFrame m #[(.ref x), (.ref b)] 2 = mkF m 0 #[rv x, rv b] [] := by first | (simp [entryFrame, mkF, argsToLocals, Value.category]; done) | rfl
set_option maxRecDepth 65536 in
set_option maxHeartbeats 40000000 in
theorem own_emp1 (l : Launch) (Z : State) (a0 : Array Value) (H : own_Wld Z a0) {cw : List Jvm.Cond} (x : Addr) (b : Addr) (h0 : Heap) (O0 : Ext Z.heap h0) (g_x : Z.heap.size ≤ x) (E_x : Exa Z h0 x "java/lang/String") (Fv : Fld Z h0 x "java/lang/String" "value" "[B" .null) (Fc : Fld Z h0 x "java/lang/String" "coder" "B" (.int 0)) {kc : ClassId} {dv : Value} (A_b : Arv Z h0 b kc .char (0 : Int32) [] dv) :
    Own.Con l Z consts_1 (⟨"java/lang/String", "<init>", "([C)V"⟩ : MethodName) jdk_42_method_3_code 2 none cw ({ frames := 2, cells := 4, slots := 8, locals := 29 } : Room) #[(.ref x), (.ref b)] h0 (fun v h => Keep h0 h [x] ∧ v = none ∧ ∃ t, Own.Str Z h x t []) := by
  have hw := H.1
  have hW := fun (i : Nat) (w : Jvm.Cond) (e : tables_1[i]? = some w) => hw w (List.mem_of_getElem? e)
  have hCm := H.2.1
  have hSi := H.2.2.1
  have hEL := H.2.2.2
  have hWs : ∀ d ∈ StrChars.Road.words, d.before a0 Z = true := fun d hd => hw d (own_wbackV d hd)
  have hWl : ∀ d ∈ StrChars.Road.wordsLen, d.before a0 Z = true := fun d hd => hw d (own_wlenW d hd)
  have hSA : ∀ d ∈ Bundle.stringAtoms, d.before a0 Z = true := fun d hd => hw d (own_wSA d hd)
  refine Own.Con.of own_pnc164e3 hEL O0 ?_
  intro p e s m below meth c T0 G vm0 hx hby hml hret hnm hG hR S0
  have hz : ∀ L : Array Slot, L.size = 2 → L.size = c.maxLocals := fun L q => q.trans hml.symm
  rw [own_ef_own_emp1]
  show G T0 (mkF m 0 #[rv x, rv b] [])
  have sf_x : Safe Z consts_1 vm0 h0 x := Own.Safe.blank S0.warm.alike E_x Fv (hW 6 _ rfl)
  refine hG.st (fun _ q => XS.aloadN S0.here hx rfl (hb hby own_d31_0) rfl rfl (XS.aloadN S0.here hx rfl (hb hby own_d31_1) rfl rfl (XS.iconst S0.here hx rfl (hb hby own_d31_2) (XS.aloadN S0.here hx rfl (hb hby own_d31_3) rfl rfl q)))) ?_
  show G T0 (mkF m 4 #[rv x, rv b] [(.ref b), (.int 0), (.ref b), (.ref x)])
  refine Own.Sit.arraylength hG S0 hx A_b rfl rfl (hb hby own_d31_4) ?_
  show G T0 (mkF m 5 #[rv x, rv b] [(.int 0), (.int 0), (.ref b), (.ref x)])
  refine hG.st (fun _ q => XS.aconstNull S0.here hx rfl (hb hby own_d31_5) q) ?_
  show G T0 (mkF m 6 #[rv x, rv b] [.null, (.int 0), (.int 0), (.ref b), (.ref x)])
  refine Own.Sit.callI hG S0 hx hEL rfl (as := [(.ref b), (.int 0), (.int 0), .null]) (hW 12 _ rfl) (hW 13 _ rfl) (hW 7 _ rfl) (hW 15 _ rfl) (by decide) (own_emp4 l Z a0 H x b h0 S0.old g_x E_x Fv Fc) own_pd2d3984 rfl rfl (hz _ rfl) (rest := []) rfl (W := 0) (Own.hw0 rfl rfl) (hb hby own_d31_6) (by decide) (by decide) (by decide) (by decide) (fun v568 vm568 T568 h568 S568 C568 q568 => ?_)
  obtain ⟨K568, rfl, y568, St568⟩ := q568
  have J568 : Own.Stp Z consts_1 vm0 h0 vm568 h568 [x] := ⟨K568, C568⟩
  show G T568 (mkF m 9 #[rv x, rv b] [])
  exact Own.Sit.ret0 hR S568 hx hret (hb hby own_d31_9) (by decide) (by decide) ⟨J568.1, rfl, _, St568⟩
theorem own_pn0ef528 : plainFor (⟨"com/example/latchkey/latchkey/ListenAddressToStringPinLaw", "make", "(ICCC)Ljava/lang/String;"⟩ : MethodName) = true := by first | exact plainFor_of_name (by first | (simp [plainName, overriddenIn]; done) | decide +kernel) | decide +kernel
theorem own_pd827e25 : parseMethodDescriptor "([C)V" = some ⟨[(.array .char)], none⟩ := by decide +kernel
theorem own_d32_0 : decode method_4_code 0 = .ok (.iload_n 0, 1) := by decide +kernel
theorem own_d32_1 : decode method_4_code 1 = .ok (.ifCond .ne 14, 3) := by decide +kernel
theorem own_d32_4 : decode method_4_code 4 = .ok (.new 24, 3) := by decide +kernel
theorem own_d32_7 : decode method_4_code 7 = .ok (.dup, 1) := by decide +kernel
theorem own_d32_8 : decode method_4_code 8 = .ok (.iconst 0, 1) := by decide +kernel
theorem own_d32_9 : decode method_4_code 9 = .ok (.newarray .char, 2) := by decide +kernel
theorem own_d32_11 : decode method_4_code 11 = .ok (.invokespecial 37, 3) := by decide +kernel
theorem own_d32_14 : decode method_4_code 14 = .ok (.areturn, 1) := by decide +kernel
theorem own_d32_15 : decode method_4_code 15 = .ok (.iload_n 0, 1) := by decide +kernel
theorem own_d32_16 : decode method_4_code 16 = .ok (.iconst 1, 1) := by decide +kernel
theorem own_d32_17 : decode method_4_code 17 = .ok (.if_icmp .ne 18, 3) := by decide +kernel
theorem own_d32_20 : decode method_4_code 20 = .ok (.new 24, 3) := by decide +kernel
theorem own_d32_23 : decode method_4_code 23 = .ok (.dup, 1) := by decide +kernel
theorem own_d32_24 : decode method_4_code 24 = .ok (.iconst 1, 1) := by decide +kernel
theorem own_d32_25 : decode method_4_code 25 = .ok (.newarray .char, 2) := by decide +kernel
theorem own_d32_27 : decode method_4_code 27 = .ok (.dup, 1) := by decide +kernel
theorem own_d32_28 : decode method_4_code 28 = .ok (.iconst 0, 1) := by decide +kernel
theorem own_d32_29 : decode method_4_code 29 = .ok (.iload_n 1, 1) := by decide +kernel
theorem own_d32_30 : decode method_4_code 30 = .ok (.castore, 1) := by decide +kernel
theorem own_d32_31 : decode method_4_code 31 = .ok (.invokespecial 37, 3) := by decide +kernel
theorem own_d32_34 : decode method_4_code 34 = .ok (.areturn, 1) := by decide +kernel
theorem own_d32_35 : decode method_4_code 35 = .ok (.iload_n 0, 1) := by decide +kernel
theorem own_d32_36 : decode method_4_code 36 = .ok (.iconst 2, 1) := by decide +kernel
theorem own_d32_37 : decode method_4_code 37 = .ok (.if_icmp .ne 22, 3) := by decide +kernel
theorem own_d32_40 : decode method_4_code 40 = .ok (.new 24, 3) := by decide +kernel
theorem own_d32_43 : decode method_4_code 43 = .ok (.dup, 1) := by decide +kernel
theorem own_d32_44 : decode method_4_code 44 = .ok (.iconst 2, 1) := by decide +kernel
theorem own_d32_45 : decode method_4_code 45 = .ok (.newarray .char, 2) := by decide +kernel
theorem own_d32_47 : decode method_4_code 47 = .ok (.dup, 1) := by decide +kernel
theorem own_d32_48 : decode method_4_code 48 = .ok (.iconst 0, 1) := by decide +kernel
theorem own_d32_49 : decode method_4_code 49 = .ok (.iload_n 1, 1) := by decide +kernel
theorem own_d32_50 : decode method_4_code 50 = .ok (.castore, 1) := by decide +kernel
theorem own_d32_51 : decode method_4_code 51 = .ok (.dup, 1) := by decide +kernel
theorem own_d32_52 : decode method_4_code 52 = .ok (.iconst 1, 1) := by decide +kernel
theorem own_d32_53 : decode method_4_code 53 = .ok (.iload_n 2, 1) := by decide +kernel
theorem own_d32_54 : decode method_4_code 54 = .ok (.castore, 1) := by decide +kernel
theorem own_d32_55 : decode method_4_code 55 = .ok (.invokespecial 37, 3) := by decide +kernel
theorem own_d32_58 : decode method_4_code 58 = .ok (.areturn, 1) := by decide +kernel
theorem own_d32_59 : decode method_4_code 59 = .ok (.new 24, 3) := by decide +kernel
theorem own_d32_62 : decode method_4_code 62 = .ok (.dup, 1) := by decide +kernel
theorem own_d32_63 : decode method_4_code 63 = .ok (.iconst 3, 1) := by decide +kernel
theorem own_d32_64 : decode method_4_code 64 = .ok (.newarray .char, 2) := by decide +kernel
theorem own_d32_66 : decode method_4_code 66 = .ok (.dup, 1) := by decide +kernel
theorem own_d32_67 : decode method_4_code 67 = .ok (.iconst 0, 1) := by decide +kernel
theorem own_d32_68 : decode method_4_code 68 = .ok (.iload_n 1, 1) := by decide +kernel
theorem own_d32_69 : decode method_4_code 69 = .ok (.castore, 1) := by decide +kernel
theorem own_d32_70 : decode method_4_code 70 = .ok (.dup, 1) := by decide +kernel
theorem own_d32_71 : decode method_4_code 71 = .ok (.iconst 1, 1) := by decide +kernel
theorem own_d32_72 : decode method_4_code 72 = .ok (.iload_n 2, 1) := by decide +kernel
theorem own_d32_73 : decode method_4_code 73 = .ok (.castore, 1) := by decide +kernel
theorem own_d32_74 : decode method_4_code 74 = .ok (.dup, 1) := by decide +kernel
theorem own_d32_75 : decode method_4_code 75 = .ok (.iconst 2, 1) := by decide +kernel
theorem own_d32_76 : decode method_4_code 76 = .ok (.iload_n 3, 1) := by decide +kernel
theorem own_d32_77 : decode method_4_code 77 = .ok (.castore, 1) := by decide +kernel
theorem own_d32_78 : decode method_4_code 78 = .ok (.invokespecial 37, 3) := by decide +kernel
theorem own_d32_81 : decode method_4_code 81 = .ok (.areturn, 1) := by decide +kernel
theorem own_ef_own_make (m : MethodId) (n : Int32) (ca : Int32) (cb : Int32) (cc : Int32) : entryFrame m #[(.int n), (.int ca), (.int cb), (.int cc)] 4 = mkF m 0 #[iv n, iv ca, iv cb, iv cc] [] := by first | (simp [entryFrame, mkF, argsToLocals, Value.category]; done) | rfl
set_option maxRecDepth 65536 in
set_option maxHeartbeats 40000000 in
theorem own_make (l : Launch) (Z : State) (a0 : Array Value) (H : own_Wld Z a0) {cw : List Jvm.Cond} (n : Int32) (ca : Int32) (cb : Int32) (cc : Int32) (h0 : Heap) (O0 : Ext Z.heap h0) (r_ca : ¬ ca < 0 ∧ ¬ (255 : Int32) < ca) (r_cb : ¬ cb < 0 ∧ ¬ (255 : Int32) < cb) (r_cc : ¬ cc < 0 ∧ ¬ (255 : Int32) < cc) :
    Own.Con l Z consts_1 (⟨"com/example/latchkey/latchkey/ListenAddressToStringPinLaw", "make", "(ICCC)Ljava/lang/String;"⟩ : MethodName) method_4_code 4 (some (.object "java/lang/String")) cw ({ frames := 4, cells := 6, slots := 12, locals := 66 } : Room) #[(.int n), (.int ca), (.int cb), (.int cc)] h0 (fun v h => Keep h0 h [] ∧ ∃ x t cs, v = some (.ref x) ∧ Own.Str Z h x t cs ∧ h0.size ≤ x ∧ cs = own_mk n ca cb cc) := by
  have hw := H.1
  have hW := fun (i : Nat) (w : Jvm.Cond) (e : tables_1[i]? = some w) => hw w (List.mem_of_getElem? e)
  have hCm := H.2.1
  have hSi := H.2.2.1
  have hEL := H.2.2.2
  have hWs : ∀ d ∈ StrChars.Road.words, d.before a0 Z = true := fun d hd => hw d (own_wbackV d hd)
  have hWl : ∀ d ∈ StrChars.Road.wordsLen, d.before a0 Z = true := fun d hd => hw d (own_wlenW d hd)
  have hSA : ∀ d ∈ Bundle.stringAtoms, d.before a0 Z = true := fun d hd => hw d (own_wSA d hd)
  refine Own.Con.of own_pn0ef528 hEL O0 ?_
  intro p e s m below meth c T0 G vm0 hx hby hml hret hnm hG hR S0
  have hz : ∀ L : Array Slot, L.size = 4 → L.size = c.maxLocals := fun L q => q.trans hml.symm
  rw [own_ef_own_make]
  show G T0 (mkF m 0 #[iv n, iv ca, iv cb, iv cc] [])
  refine hG.st (fun _ q => XS.iloadN S0.here hx rfl (hb hby own_d32_0) rfl q) ?_
  show G T0 (mkF m 1 #[iv n, iv ca, iv cb, iv cc] [(.int n)])
  by_cases hc1 : n = (0 : Int32)
  ·
    refine hG.st (fun _ q => XS.ifNo S0.here hx rfl (hb hby own_d32_1) rfl ((if0 _ _).trans (teq hc1).2) q) ?_
    show G T0 (mkF m 4 #[iv n, iv ca, iv cb, iv cc] [])
    refine Own.Sit.newO hG S0 hx (hW 5 _ rfl) (hW 6 _ rfl) (hW 7 _ rfl) rfl (hb hby own_d32_4) (by decide) (by decide) (fun T569 h569 x569 g_x569 S569 J569 Sf569 E569 D569 => ?_)
    have lt_x569 := E569.lt
    have ga_x569 : Z.heap.size ≤ x569 := Nat.le_trans S0.le (Nat.le_of_eq g_x569.symm)
    have F570 : Fld Z h569 x569 "java/lang/String" "value" "[B" .null := D569 (Or.inr (hW 21 _ rfl)) (ty := (.array .byte)) (by decide)
    have F571 : Fld Z h569 x569 "java/lang/String" "coder" "B" (.int 0) := D569 (Or.inr (hW 22 _ rfl)) (ty := .byte) (by decide)
    refine hG.st (fun _ q => XS.dup S569.here hx rfl (hb hby own_d32_7) rfl rfl (XS.iconst S569.here hx rfl (hb hby own_d32_8) q)) ?_
    show G T569 (mkF m 9 #[iv n, iv ca, iv cb, iv cc] [(.int 0), (.ref x569), (.ref x569)])
    refine Own.Sit.newP hG S569 hx (aty := .char) (hW 8 _ rfl) rfl (hb hby own_d32_9) rfl (by decide) (cap := 0) (by decide) (by decide) (by decide) (by decide) (fun T572 h572 x572 k572 g_x572 S572 J572 Sf572 (V572 : Arv Z h572 x572 k572 .char (0 : Int32) [] (.int 0)) => ?_)
    have lt_x572 := V572.lt
    have ga_x572 : Z.heap.size ≤ x572 := Nat.le_trans S569.le (Nat.le_of_eq g_x572.symm)
    have E573 := J572.exa E569
    have F574 := J572.fld F570 nin0
    have F575 := J572.fld F571 nin0
    show G T572 (mkF m 11 #[iv n, iv ca, iv cb, iv cc] [(.ref x572), (.ref x569), (.ref x569)])
    refine Own.Sit.callI hG S572 hx hEL rfl (as := [(.ref x572)]) (hW 9 _ rfl) (hW 10 _ rfl) (hW 7 _ rfl) (hW 11 _ rfl) (by decide) (own_emp1 l Z a0 H x569 x572 h572 S572.old ga_x569 E573 F574 F575 V572) own_pd827e25 rfl rfl (hz _ rfl) (rest := [(.ref x569)]) rfl (W := 1) (Own.hw0 rfl rfl) (hb hby own_d32_11) (by decide) (by decide) (by decide) (by decide) (fun v576 vm576 T576 h576 S576 C576 q576 => ?_)
    obtain ⟨K576, rfl, y576, St576⟩ := q576
    have J576 : Own.Stp Z consts_1 vm0 h572 vm576 h576 [x569] := ⟨K576, C576⟩
    have J577 : Own.Stp Z consts_1 vm0 h0 vm0 h572 [] := Own.Stp.trans J569 J572 (all0) all0
    have J578 : Own.Stp Z consts_1 vm0 h0 vm576 h576 [] := Own.Stp.trans J577 J576 (all0) (allS (Or.inr (Nat.le_of_eq g_x569.symm)) all0)
    show G T576 (mkF m 14 #[iv n, iv ca, iv cb, iv cc] [(.ref x569)])
    exact Own.Sit.retO hR S576 hx hret rfl (Or.inr (Or.inr (Or.inr (Or.inr ⟨rfl, rfl, rfl⟩)))) (hb hby own_d32_14) (by decide) (by decide) ⟨J578.1, x569, _, _, rfl, St576, (Nat.le_of_eq g_x569.symm), own_mk0 hc1⟩
  ·
    refine hG.st (fun _ q => XS.ifYes S0.here hx rfl (pc0 := 1) (pc' := 15) rfl (hb hby own_d32_1) rfl ((if0 _ _).trans (feq hc1).2) (by decide) (by decide) (XS.iloadN S0.here hx rfl (hb hby own_d32_15) rfl (XS.iconst S0.here hx rfl (hb hby own_d32_16) q))) ?_
    show G T0 (mkF m 17 #[iv n, iv ca, iv cb, iv cc] [(.int 1), (.int n)])
    by_cases hc17 : n = (1 : Int32)
    ·
      refine hG.st (fun _ q => XS.icmpNo S0.here hx rfl (hb hby own_d32_17) rfl (teq hc17).2 q) ?_
      show G T0 (mkF m 20 #[iv n, iv ca, iv cb, iv cc] [])
      refine Own.Sit.newO hG S0 hx (hW 5 _ rfl) (hW 6 _ rfl) (hW 7 _ rfl) rfl (hb hby own_d32_20) (by decide) (by decide) (fun T579 h579 x579 g_x579 S579 J579 Sf579 E579 D579 => ?_)
      have lt_x579 := E579.lt
      have ga_x579 : Z.heap.size ≤ x579 := Nat.le_trans S0.le (Nat.le_of_eq g_x579.symm)
      have F580 : Fld Z h579 x579 "java/lang/String" "value" "[B" .null := D579 (Or.inr (hW 21 _ rfl)) (ty := (.array .byte)) (by decide)
      have F581 : Fld Z h579 x579 "java/lang/String" "coder" "B" (.int 0) := D579 (Or.inr (hW 22 _ rfl)) (ty := .byte) (by decide)
      refine hG.st (fun _ q => XS.dup S579.here hx rfl (hb hby own_d32_23) rfl rfl (XS.iconst S579.here hx rfl (hb hby own_d32_24) q)) ?_
      show G T579 (mkF m 25 #[iv n, iv ca, iv cb, iv cc] [(.int 1), (.ref x579), (.ref x579)])
      refine Own.Sit.newP hG S579 hx (aty := .char) (hW 8 _ rfl) rfl (hb hby own_d32_25) rfl (by decide) (cap := 1) (by decide) (by decide) (by decide) (by decide) (fun T582 h582 x582 k582 g_x582 S582 J582 Sf582 (V582 : Arv Z h582 x582 k582 .char (1 : Int32) [(.int 0)] (.int 0)) => ?_)
      have lt_x582 := V582.lt
      have ga_x582 : Z.heap.size ≤ x582 := Nat.le_trans S579.le (Nat.le_of_eq g_x582.symm)
      refine hG.st (fun _ q => XS.dup S582.here hx rfl (hb hby own_d32_27) rfl rfl (XS.iconst S582.here hx rfl (hb hby own_d32_28) (XS.iloadN S582.here hx rfl (hb hby own_d32_29) rfl q))) ?_
      show G T582 (mkF m 30 #[iv n, iv ca, iv cb, iv cc] [(.int ca), (.int 0), (.ref x582), (.ref x582), (.ref x579), (.ref x579)])
      refine Own.Sit.stC hG S582 hx V582 ga_x582 ⟨by decide, by decide⟩ 0 rfl (Nat.le_of_ble_eq_true rfl) rfl rfl (hb hby own_d32_30) (fun T583 h583 S583 J583 (V583 : Arv Z h583 x582 k582 .char (1 : Int32) [(.int (nar .char ca))] (.int 0)) => ?_)
      rw [own_narC r_ca] at V583
      have J584 : Own.Stp Z consts_1 vm0 h579 vm0 h583 [] := Own.Stp.trans J582 J583 (all0) (allS (Or.inr (Nat.le_of_eq g_x582.symm)) all0)
      have E585 := J584.exa E579
      have F586 := J584.fld F580 nin0
      have F587 := J584.fld F581 nin0
      have Sf588 := J584.safe lt_x579 Sf579
      have hp589 : ∀ c ∈ ([ca] : List Int32), ¬ c < 0 ∧ ¬ (255 : Int32) < c := by
        intro c hc
        simp only [List.mem_cons, List.not_mem_nil, or_false] at hc
        rcases hc with rfl
        · exact r_ca
      show G T583 (mkF m 31 #[iv n, iv ca, iv cb, iv cc] [(.ref x582), (.ref x579), (.ref x579)])
      refine Own.Sit.newStr hG S583 hx hWs hCm (hW 6 _ rfl) (hW 9 _ rfl) (hW 10 _ rfl) (cs := ([ca] : List Int32)) ga_x579 Sf588 E585 F586 F587 V583 rfl (Nat.le_of_ble_eq_true rfl) (Nat.le_of_ble_eq_true rfl) hp589 (nn := 1) (Nat.le_of_ble_eq_true rfl) rfl (hz _ rfl) (rest := [(.ref x579)]) rfl (W := 1) (Own.hw0 rfl rfl) (hb hby own_d32_31) (by decide) (by decide) (by decide) (by decide) (fun T590 h590 y590 S590 J590 u590 St590 => ?_)
      have J591 : Own.Stp Z consts_1 vm0 h0 vm0 h582 [] := Own.Stp.trans J579 J582 (all0) all0
      have J592 : Own.Stp Z consts_1 vm0 h0 vm0 h583 [] := Own.Stp.trans J591 J583 (all0) (allS (Or.inr (Nat.le_trans J579.1.1 (Nat.le_of_eq g_x582.symm))) all0)
      have J593 : Own.Stp Z consts_1 vm0 h0 vm0 h590 [] := Own.Stp.trans J592 J590 (all0) (allS (Or.inr (Nat.le_of_eq g_x579.symm)) all0)
      show G T590 (mkF m 34 #[iv n, iv ca, iv cb, iv cc] [(.ref x579)])
      exact Own.Sit.retO hR S590 hx hret rfl (Or.inr (Or.inr (Or.inr (Or.inr ⟨rfl, rfl, rfl⟩)))) (hb hby own_d32_34) (by decide) (by decide) ⟨J593.1, x579, _, _, rfl, St590, (Nat.le_of_eq g_x579.symm), own_mk1 hc1 hc17⟩
    ·
      refine hG.st (fun _ q => XS.icmpYes S0.here hx rfl (pc0 := 17) (pc' := 35) rfl (hb hby own_d32_17) rfl (feq hc17).2 (by decide) (by decide) (XS.iloadN S0.here hx rfl (hb hby own_d32_35) rfl (XS.iconst S0.here hx rfl (hb hby own_d32_36) q))) ?_
      show G T0 (mkF m 37 #[iv n, iv ca, iv cb, iv cc] [(.int 2), (.int n)])
      by_cases hc37 : n = (2 : Int32)
      ·
        refine hG.st (fun _ q => XS.icmpNo S0.here hx rfl (hb hby own_d32_37) rfl (teq hc37).2 q) ?_
        show G T0 (mkF m 40 #[iv n, iv ca, iv cb, iv cc] [])
        refine Own.Sit.newO hG S0 hx (hW 5 _ rfl) (hW 6 _ rfl) (hW 7 _ rfl) rfl (hb hby own_d32_40) (by decide) (by decide) (fun T594 h594 x594 g_x594 S594 J594 Sf594 E594 D594 => ?_)
        have lt_x594 := E594.lt
        have ga_x594 : Z.heap.size ≤ x594 := Nat.le_trans S0.le (Nat.le_of_eq g_x594.symm)
        have F595 : Fld Z h594 x594 "java/lang/String" "value" "[B" .null := D594 (Or.inr (hW 21 _ rfl)) (ty := (.array .byte)) (by decide)
        have F596 : Fld Z h594 x594 "java/lang/String" "coder" "B" (.int 0) := D594 (Or.inr (hW 22 _ rfl)) (ty := .byte) (by decide)
        refine hG.st (fun _ q => XS.dup S594.here hx rfl (hb hby own_d32_43) rfl rfl (XS.iconst S594.here hx rfl (hb hby own_d32_44) q)) ?_
        show G T594 (mkF m 45 #[iv n, iv ca, iv cb, iv cc] [(.int 2), (.ref x594), (.ref x594)])
        refine Own.Sit.newP hG S594 hx (aty := .char) (hW 8 _ rfl) rfl (hb hby own_d32_45) rfl (by decide) (cap := 2) (by decide) (by decide) (by decide) (by decide) (fun T597 h597 x597 k597 g_x597 S597 J597 Sf597 (V597 : Arv Z h597 x597 k597 .char (2 : Int32) [(.int 0), (.int 0)] (.int 0)) => ?_)
        have lt_x597 := V597.lt
        have ga_x597 : Z.heap.size ≤ x597 := Nat.le_trans S594.le (Nat.le_of_eq g_x597.symm)
        refine hG.st (fun _ q => XS.dup S597.here hx rfl (hb hby own_d32_47) rfl rfl (XS.iconst S597.here hx rfl (hb hby own_d32_48) (XS.iloadN S597.here hx rfl (hb hby own_d32_49) rfl q))) ?_
        show G T597 (mkF m 50 #[iv n, iv ca, iv cb, iv cc] [(.int ca), (.int 0), (.ref x597), (.ref x597), (.ref x594), (.ref x594)])
        refine Own.Sit.stC hG S597 hx V597 ga_x597 ⟨by decide, by decide⟩ 0 rfl (Nat.le_of_ble_eq_true rfl) rfl rfl (hb hby own_d32_50) (fun T598 h598 S598 J598 (V598 : Arv Z h598 x597 k597 .char (2 : Int32) [(.int (nar .char ca)), (.int 0)] (.int 0)) => ?_)
        rw [own_narC r_ca] at V598
        refine hG.st (fun _ q => XS.dup S598.here hx rfl (hb hby own_d32_51) rfl rfl (XS.iconst S598.here hx rfl (hb hby own_d32_52) (XS.iloadN S598.here hx rfl (hb hby own_d32_53) rfl q))) ?_
        show G T598 (mkF m 54 #[iv n, iv ca, iv cb, iv cc] [(.int cb), (.int 1), (.ref x597), (.ref x597), (.ref x594), (.ref x594)])
        refine Own.Sit.stC hG S598 hx V598 ga_x597 ⟨by decide, by decide⟩ 1 rfl (Nat.le_of_ble_eq_true rfl) rfl rfl (hb hby own_d32_54) (fun T599 h599 S599 J599 (V599 : Arv Z h599 x597 k597 .char (2 : Int32) [(.int ca), (.int (nar .char cb))] (.int 0)) => ?_)
        rw [own_narC r_cb] at V599
        have J600 : Own.Stp Z consts_1 vm0 h594 vm0 h598 [] := Own.Stp.trans J597 J598 (all0) (allS (Or.inr (Nat.le_of_eq g_x597.symm)) all0)
        have J601 : Own.Stp Z consts_1 vm0 h594 vm0 h599 [] := Own.Stp.trans J600 J599 (all0) (allS (Or.inr (Nat.le_of_eq g_x597.symm)) all0)
        have E602 := J601.exa E594
        have F603 := J601.fld F595 nin0
        have F604 := J601.fld F596 nin0
        have Sf605 := J601.safe lt_x594 Sf594
        have hp606 : ∀ c ∈ ([ca, cb] : List Int32), ¬ c < 0 ∧ ¬ (255 : Int32) < c := by
          intro c hc
          simp only [List.mem_cons, List.not_mem_nil, or_false] at hc
          rcases hc with rfl | rfl
          · exact r_ca
          · exact r_cb
        show G T599 (mkF m 55 #[iv n, iv ca, iv cb, iv cc] [(.ref x597), (.ref x594), (.ref x594)])
        refine Own.Sit.newStr hG S599 hx hWs hCm (hW 6 _ rfl) (hW 9 _ rfl) (hW 10 _ rfl) (cs := ([ca, cb] : List Int32)) ga_x594 Sf605 E602 F603 F604 V599 rfl (Nat.le_of_ble_eq_true rfl) (Nat.le_of_ble_eq_true rfl) hp606 (nn := 2) (Nat.le_of_ble_eq_true rfl) rfl (hz _ rfl) (rest := [(.ref x594)]) rfl (W := 1) (Own.hw0 rfl rfl) (hb hby own_d32_55) (by decide) (by decide) (by decide) (by decide) (fun T607 h607 y607 S607 J607 u607 St607 => ?_)
        have J608 : Own.Stp Z consts_1 vm0 h0 vm0 h597 [] := Own.Stp.trans J594 J597 (all0) all0
        have J609 : Own.Stp Z consts_1 vm0 h0 vm0 h598 [] := Own.Stp.trans J608 J598 (all0) (allS (Or.inr (Nat.le_trans J594.1.1 (Nat.le_of_eq g_x597.symm))) all0)
        have J610 : Own.Stp Z consts_1 vm0 h0 vm0 h599 [] := Own.Stp.trans J609 J599 (all0) (allS (Or.inr (Nat.le_trans J594.1.1 (Nat.le_of_eq g_x597.symm))) all0)
        have J611 : Own.Stp Z consts_1 vm0 h0 vm0 h607 [] := Own.Stp.trans J610 J607 (all0) (allS (Or.inr (Nat.le_of_eq g_x594.symm)) all0)
        show G T607 (mkF m 58 #[iv n, iv ca, iv cb, iv cc] [(.ref x594)])
        exact Own.Sit.retO hR S607 hx hret rfl (Or.inr (Or.inr (Or.inr (Or.inr ⟨rfl, rfl, rfl⟩)))) (hb hby own_d32_58) (by decide) (by decide) ⟨J611.1, x594, _, _, rfl, St607, (Nat.le_of_eq g_x594.symm), own_mk2 hc1 hc17 hc37⟩
      ·
        refine hG.st (fun _ q => XS.icmpYes S0.here hx rfl (pc0 := 37) (pc' := 59) rfl (hb hby own_d32_37) rfl (feq hc37).2 (by decide) (by decide) q) ?_
        show G T0 (mkF m 59 #[iv n, iv ca, iv cb, iv cc] [])
        refine Own.Sit.newO hG S0 hx (hW 5 _ rfl) (hW 6 _ rfl) (hW 7 _ rfl) rfl (hb hby own_d32_59) (by decide) (by decide) (fun T612 h612 x612 g_x612 S612 J612 Sf612 E612 D612 => ?_)
        have lt_x612 := E612.lt
        have ga_x612 : Z.heap.size ≤ x612 := Nat.le_trans S0.le (Nat.le_of_eq g_x612.symm)
        have F613 : Fld Z h612 x612 "java/lang/String" "value" "[B" .null := D612 (Or.inr (hW 21 _ rfl)) (ty := (.array .byte)) (by decide)
        have F614 : Fld Z h612 x612 "java/lang/String" "coder" "B" (.int 0) := D612 (Or.inr (hW 22 _ rfl)) (ty := .byte) (by decide)
        refine hG.st (fun _ q => XS.dup S612.here hx rfl (hb hby own_d32_62) rfl rfl (XS.iconst S612.here hx rfl (hb hby own_d32_63) q)) ?_
        show G T612 (mkF m 64 #[iv n, iv ca, iv cb, iv cc] [(.int 3), (.ref x612), (.ref x612)])
        refine Own.Sit.newP hG S612 hx (aty := .char) (hW 8 _ rfl) rfl (hb hby own_d32_64) rfl (by decide) (cap := 3) (by decide) (by decide) (by decide) (by decide) (fun T615 h615 x615 k615 g_x615 S615 J615 Sf615 (V615 : Arv Z h615 x615 k615 .char (3 : Int32) [(.int 0), (.int 0), (.int 0)] (.int 0)) => ?_)
        have lt_x615 := V615.lt
        have ga_x615 : Z.heap.size ≤ x615 := Nat.le_trans S612.le (Nat.le_of_eq g_x615.symm)
        refine hG.st (fun _ q => XS.dup S615.here hx rfl (hb hby own_d32_66) rfl rfl (XS.iconst S615.here hx rfl (hb hby own_d32_67) (XS.iloadN S615.here hx rfl (hb hby own_d32_68) rfl q))) ?_
        show G T615 (mkF m 69 #[iv n, iv ca, iv cb, iv cc] [(.int ca), (.int 0), (.ref x615), (.ref x615), (.ref x612), (.ref x612)])
        refine Own.Sit.stC hG S615 hx V615 ga_x615 ⟨by decide, by decide⟩ 0 rfl (Nat.le_of_ble_eq_true rfl) rfl rfl (hb hby own_d32_69) (fun T616 h616 S616 J616 (V616 : Arv Z h616 x615 k615 .char (3 : Int32) [(.int (nar .char ca)), (.int 0), (.int 0)] (.int 0)) => ?_)
        rw [own_narC r_ca] at V616
        refine hG.st (fun _ q => XS.dup S616.here hx rfl (hb hby own_d32_70) rfl rfl (XS.iconst S616.here hx rfl (hb hby own_d32_71) (XS.iloadN S616.here hx rfl (hb hby own_d32_72) rfl q))) ?_
        show G T616 (mkF m 73 #[iv n, iv ca, iv cb, iv cc] [(.int cb), (.int 1), (.ref x615), (.ref x615), (.ref x612), (.ref x612)])
        refine Own.Sit.stC hG S616 hx V616 ga_x615 ⟨by decide, by decide⟩ 1 rfl (Nat.le_of_ble_eq_true rfl) rfl rfl (hb hby own_d32_73) (fun T617 h617 S617 J617 (V617 : Arv Z h617 x615 k615 .char (3 : Int32) [(.int ca), (.int (nar .char cb)), (.int 0)] (.int 0)) => ?_)
        rw [own_narC r_cb] at V617
        refine hG.st (fun _ q => XS.dup S617.here hx rfl (hb hby own_d32_74) rfl rfl (XS.iconst S617.here hx rfl (hb hby own_d32_75) (XS.iloadN S617.here hx rfl (hb hby own_d32_76) rfl q))) ?_
        show G T617 (mkF m 77 #[iv n, iv ca, iv cb, iv cc] [(.int cc), (.int 2), (.ref x615), (.ref x615), (.ref x612), (.ref x612)])
        refine Own.Sit.stC hG S617 hx V617 ga_x615 ⟨by decide, by decide⟩ 2 rfl (Nat.le_of_ble_eq_true rfl) rfl rfl (hb hby own_d32_77) (fun T618 h618 S618 J618 (V618 : Arv Z h618 x615 k615 .char (3 : Int32) [(.int ca), (.int cb), (.int (nar .char cc))] (.int 0)) => ?_)
        rw [own_narC r_cc] at V618
        have J619 : Own.Stp Z consts_1 vm0 h612 vm0 h616 [] := Own.Stp.trans J615 J616 (all0) (allS (Or.inr (Nat.le_of_eq g_x615.symm)) all0)
        have J620 : Own.Stp Z consts_1 vm0 h612 vm0 h617 [] := Own.Stp.trans J619 J617 (all0) (allS (Or.inr (Nat.le_of_eq g_x615.symm)) all0)
        have J621 : Own.Stp Z consts_1 vm0 h612 vm0 h618 [] := Own.Stp.trans J620 J618 (all0) (allS (Or.inr (Nat.le_of_eq g_x615.symm)) all0)
        have E622 := J621.exa E612
        have F623 := J621.fld F613 nin0
        have F624 := J621.fld F614 nin0
        have Sf625 := J621.safe lt_x612 Sf612
        have hp626 : ∀ c ∈ ([ca, cb, cc] : List Int32), ¬ c < 0 ∧ ¬ (255 : Int32) < c := by
          intro c hc
          simp only [List.mem_cons, List.not_mem_nil, or_false] at hc
          rcases hc with rfl | rfl | rfl
          · exact r_ca
          · exact r_cb
          · exact r_cc
        show G T618 (mkF m 78 #[iv n, iv ca, iv cb, iv cc] [(.ref x615), (.ref x612), (.ref x612)])
        refine Own.Sit.newStr hG S618 hx hWs hCm (hW 6 _ rfl) (hW 9 _ rfl) (hW 10 _ rfl) (cs := ([ca, cb, cc] : List Int32)) ga_x612 Sf625 E622 F623 F624 V618 rfl (Nat.le_of_ble_eq_true rfl) (Nat.le_of_ble_eq_true rfl) hp626 (nn := 3) (Nat.le_of_ble_eq_true rfl) rfl (hz _ rfl) (rest := [(.ref x612)]) rfl (W := 1) (Own.hw0 rfl rfl) (hb hby own_d32_78) (by decide) (by decide) (by decide) (by decide) (fun T627 h627 y627 S627 J627 u627 St627 => ?_)
        have J628 : Own.Stp Z consts_1 vm0 h0 vm0 h615 [] := Own.Stp.trans J612 J615 (all0) all0
        have J629 : Own.Stp Z consts_1 vm0 h0 vm0 h616 [] := Own.Stp.trans J628 J616 (all0) (allS (Or.inr (Nat.le_trans J612.1.1 (Nat.le_of_eq g_x615.symm))) all0)
        have J630 : Own.Stp Z consts_1 vm0 h0 vm0 h617 [] := Own.Stp.trans J629 J617 (all0) (allS (Or.inr (Nat.le_trans J612.1.1 (Nat.le_of_eq g_x615.symm))) all0)
        have J631 : Own.Stp Z consts_1 vm0 h0 vm0 h618 [] := Own.Stp.trans J630 J618 (all0) (allS (Or.inr (Nat.le_trans J612.1.1 (Nat.le_of_eq g_x615.symm))) all0)
        have J632 : Own.Stp Z consts_1 vm0 h0 vm0 h627 [] := Own.Stp.trans J631 J627 (all0) (allS (Or.inr (Nat.le_of_eq g_x612.symm)) all0)
        show G T627 (mkF m 81 #[iv n, iv ca, iv cb, iv cc] [(.ref x612)])
        exact Own.Sit.retO hR S627 hx hret rfl (Or.inr (Or.inr (Or.inr (Or.inr ⟨rfl, rfl, rfl⟩)))) (hb hby own_d32_81) (by decide) (by decide) ⟨J632.1, x612, _, _, rfl, St627, (Nat.le_of_eq g_x612.symm), own_mk3 hc1 hc17 hc37⟩
theorem own_pnaf928b : plainFor (⟨"com/example/latchkey/latchkey/ListenAddress", "<init>", "(Ljava/lang/String;I)V"⟩ : MethodName) = true := by first | exact plainFor_of_name (by first | (simp [plainName, overriddenIn]; done) | decide +kernel) | decide +kernel
theorem own_d33_0 : decode prog_8_method_1_code 0 = .ok (.aload_n 0, 1) := by decide +kernel
theorem own_d33_1 : decode prog_8_method_1_code 1 = .ok (.invokespecial 1, 3) := by decide +kernel
theorem own_d33_4 : decode prog_8_method_1_code 4 = .ok (.aload_n 0, 1) := by decide +kernel
theorem own_d33_5 : decode prog_8_method_1_code 5 = .ok (.aload_n 1, 1) := by decide +kernel
theorem own_d33_6 : decode prog_8_method_1_code 6 = .ok (.putfield 7, 3) := by decide +kernel
theorem own_d33_9 : decode prog_8_method_1_code 9 = .ok (.aload_n 0, 1) := by decide +kernel
theorem own_d33_10 : decode prog_8_method_1_code 10 = .ok (.iload_n 2, 1) := by decide +kernel
theorem own_d33_11 : decode prog_8_method_1_code 11 = .ok (.putfield 13, 3) := by decide +kernel
theorem own_d33_14 : decode prog_8_method_1_code 14 = .ok (.return_, 1) := by decide +kernel
theorem own_ef_own_init (m : MethodId) (a : Addr) (x : Addr) (pt : Int32) : entryFrame m #[(.ref a), (.ref x), (.int pt)] 3 = mkF m 0 #[rv a, rv x, iv pt] [] := by first | (simp [entryFrame, mkF, argsToLocals, Value.category]; done) | rfl
set_option maxRecDepth 65536 in
set_option maxHeartbeats 40000000 in
theorem own_init (l : Launch) (Z : State) (a0 : Array Value) (H : own_Wld Z a0) {cw : List Jvm.Cond} (a : Addr) (x : Addr) (pt : Int32) (h0 : Heap) (O0 : Ext Z.heap h0) (g_a : Z.heap.size ≤ a) (E_a : Exa Z h0 a "com/example/latchkey/latchkey/ListenAddress") (F_h : Fld Z h0 a "com/example/latchkey/latchkey/ListenAddress" "host" "Ljava/lang/String;" .null) (F_p : Fld Z h0 a "com/example/latchkey/latchkey/ListenAddress" "port" "I" (.int 0)) :
    Own.Con l Z consts_1 (⟨"com/example/latchkey/latchkey/ListenAddress", "<init>", "(Ljava/lang/String;I)V"⟩ : MethodName) prog_8_method_1_code 3 none cw ({ frames := 1, cells := 0, slots := 0, locals := 12 } : Room) #[(.ref a), (.ref x), (.int pt)] h0 (fun v h => Keep h0 h [a] ∧ v = none ∧ Fld Z h a "com/example/latchkey/latchkey/ListenAddress" "host" "Ljava/lang/String;" (.ref x) ∧ Fld Z h a "com/example/latchkey/latchkey/ListenAddress" "port" "I" (.int pt)) := by
  have hw := H.1
  have hW := fun (i : Nat) (w : Jvm.Cond) (e : tables_1[i]? = some w) => hw w (List.mem_of_getElem? e)
  have hCm := H.2.1
  have hSi := H.2.2.1
  have hEL := H.2.2.2
  have hWs : ∀ d ∈ StrChars.Road.words, d.before a0 Z = true := fun d hd => hw d (own_wbackV d hd)
  have hWl : ∀ d ∈ StrChars.Road.wordsLen, d.before a0 Z = true := fun d hd => hw d (own_wlenW d hd)
  have hSA : ∀ d ∈ Bundle.stringAtoms, d.before a0 Z = true := fun d hd => hw d (own_wSA d hd)
  refine Own.Con.of own_pnaf928b hEL O0 ?_
  intro p e s m below meth c T0 G vm0 hx hby hml hret hnm hG hR S0
  have hz : ∀ L : Array Slot, L.size = 3 → L.size = c.maxLocals := fun L q => q.trans hml.symm
  rw [own_ef_own_init]
  show G T0 (mkF m 0 #[rv a, rv x, iv pt] [])
  refine hG.st (fun _ q => XS.aloadN S0.here hx rfl (hb hby own_d33_0) rfl rfl q) ?_
  show G T0 (mkF m 1 #[rv a, rv x, iv pt] [(.ref a)])
  refine Own.Sit.initO hG S0 hx (hW 33 _ rfl) (hW 17 _ rfl) (hW 18 _ rfl) rfl (hz _ rfl) rfl (hb hby own_d33_1) (by decide) (W := 0) (Own.hw0 rfl rfl) (by decide) (fun T633 S633 => ?_)
  refine hG.st (fun _ q => XS.aloadN S633.here hx rfl (hb hby own_d33_4) rfl rfl (XS.aloadN S633.here hx rfl (hb hby own_d33_5) rfl rfl q)) ?_
  show G T633 (mkF m 6 #[rv a, rv x, iv pt] [(.ref x), (.ref a)])
  refine Own.Sit.putF hG S633 hx (host := "") (Or.inl (hW 34 _ rfl)) Via.refl F_h E_a (Or.inr ⟨(hW 35 _ rfl), rfl, hnm⟩) (hW 28 _ rfl) (ty := (.object "java/lang/String")) (by decide) rfl rfl g_a (Safe.exa S633.warm.alike E_a (by decide) (by decide)) rfl rfl (hb hby own_d33_6) (fun T634 h634 S634 J634 W634 F634 => ?_)
  have F635 := Fld.other W634 F_p (Or.inr (slot_ne (Or.inr (hW 37 _ rfl)) (Or.inr (hW 35 _ rfl)) (by decide) (t := .int) (by decide) (t' := (.object "java/lang/String")) (by decide)))
  refine hG.st (fun _ q => XS.aloadN S634.here hx rfl (hb hby own_d33_9) rfl rfl (XS.iloadN S634.here hx rfl (hb hby own_d33_10) rfl q)) ?_
  show G T634 (mkF m 11 #[rv a, rv x, iv pt] [(.int pt), (.ref a)])
  have E636 := J634.exa E_a
  refine Own.Sit.putF hG S634 hx (host := "") (Or.inl (hW 36 _ rfl)) Via.refl F635 E636 (Or.inr ⟨(hW 37 _ rfl), rfl, hnm⟩) (hW 28 _ rfl) (ty := .int) (by decide) rfl rfl g_a (Safe.exa S634.warm.alike E636 (by decide) (by decide)) rfl rfl (hb hby own_d33_11) (fun T637 h637 S637 J637 W637 F637 => ?_)
  have F638 := Fld.other W637 F634 (Or.inr (slot_ne (Or.inr (hW 35 _ rfl)) (Or.inr (hW 37 _ rfl)) (by decide) (t := (.object "java/lang/String")) (by decide) (t' := .int) (by decide)))
  have J639 : Own.Stp Z consts_1 vm0 h0 vm0 h637 [a] := Own.Stp.trans J634 J637 (allS (List.mem_of_getElem? (i := 0) rfl) (all0)) (allS (Or.inl (List.mem_of_getElem? (i := 0) rfl)) all0)
  show G T637 (mkF m 14 #[rv a, rv x, iv pt] [])
  exact Own.Sit.ret0 hR S637 hx hret (hb hby own_d33_14) (by decide) (by decide) ⟨J639.1, rfl, F638, F637⟩
theorem own_pn500896 : plainFor (⟨"com/example/latchkey/latchkey/ListenAddress", "toString", "()Ljava/lang/String;"⟩ : MethodName) = true := by first | exact plainFor_of_name (by first | (simp [plainName, overriddenIn]; done) | decide +kernel) | decide +kernel
theorem own_pd71c128 : parseMethodDescriptor "(Ljava/lang/CharSequence;)Z" = some ⟨[(.object "java/lang/CharSequence")], some .boolean⟩ := by decide +kernel
theorem own_pd62febe : parseMethodDescriptor "()V" = some ⟨[], none⟩ := by decide +kernel
theorem own_pd59ea1a : parseMethodDescriptor "(Ljava/lang/String;)Ljava/lang/StringBuilder;" = some ⟨[(.object "java/lang/String")], some (.object "java/lang/StringBuilder")⟩ := by decide +kernel
theorem own_pd7d34f6 : parseMethodDescriptor "(I)Ljava/lang/StringBuilder;" = some ⟨[.int], some (.object "java/lang/StringBuilder")⟩ := by decide +kernel
theorem own_d34_0 : decode prog_8_method_7_code 0 = .ok (.aload_n 0, 1) := by decide +kernel
theorem own_d34_1 : decode prog_8_method_7_code 1 = .ok (.getfield 7, 3) := by decide +kernel
theorem own_d34_4 : decode prog_8_method_7_code 4 = .ok (.ldc 46, 2) := by decide +kernel
theorem own_d34_6 : decode prog_8_method_7_code 6 = .ok (.invokevirtual 48, 3) := by decide +kernel
theorem own_d34_9 : decode prog_8_method_7_code 9 = .ok (.ifCond .eq 33, 3) := by decide +kernel
theorem own_d34_12 : decode prog_8_method_7_code 12 = .ok (.new 83, 3) := by decide +kernel
theorem own_d34_15 : decode prog_8_method_7_code 15 = .ok (.dup, 1) := by decide +kernel
theorem own_d34_16 : decode prog_8_method_7_code 16 = .ok (.invokespecial 85, 3) := by decide +kernel
theorem own_d34_19 : decode prog_8_method_7_code 19 = .ok (.ldc 31, 2) := by decide +kernel
theorem own_d34_21 : decode prog_8_method_7_code 21 = .ok (.invokevirtual 88, 3) := by decide +kernel
theorem own_d34_24 : decode prog_8_method_7_code 24 = .ok (.aload_n 0, 1) := by decide +kernel
theorem own_d34_25 : decode prog_8_method_7_code 25 = .ok (.getfield 7, 3) := by decide +kernel
theorem own_d34_28 : decode prog_8_method_7_code 28 = .ok (.invokevirtual 88, 3) := by decide +kernel
theorem own_d34_31 : decode prog_8_method_7_code 31 = .ok (.ldc 37, 2) := by decide +kernel
theorem own_d34_33 : decode prog_8_method_7_code 33 = .ok (.invokevirtual 88, 3) := by decide +kernel
theorem own_d34_36 : decode prog_8_method_7_code 36 = .ok (.invokevirtual 92, 3) := by decide +kernel
theorem own_d34_39 : decode prog_8_method_7_code 39 = .ok (.goto 7, 3) := by decide +kernel
theorem own_d34_42 : decode prog_8_method_7_code 42 = .ok (.aload_n 0, 1) := by decide +kernel
theorem own_d34_43 : decode prog_8_method_7_code 43 = .ok (.getfield 7, 3) := by decide +kernel
theorem own_d34_46 : decode prog_8_method_7_code 46 = .ok (.astore_n 1, 1) := by decide +kernel
theorem own_d34_47 : decode prog_8_method_7_code 47 = .ok (.new 83, 3) := by decide +kernel
theorem own_d34_50 : decode prog_8_method_7_code 50 = .ok (.dup, 1) := by decide +kernel
theorem own_d34_51 : decode prog_8_method_7_code 51 = .ok (.invokespecial 85, 3) := by decide +kernel
theorem own_d34_54 : decode prog_8_method_7_code 54 = .ok (.aload_n 1, 1) := by decide +kernel
theorem own_d34_55 : decode prog_8_method_7_code 55 = .ok (.invokevirtual 88, 3) := by decide +kernel
theorem own_d34_58 : decode prog_8_method_7_code 58 = .ok (.ldc 46, 2) := by decide +kernel
theorem own_d34_60 : decode prog_8_method_7_code 60 = .ok (.invokevirtual 88, 3) := by decide +kernel
theorem own_d34_63 : decode prog_8_method_7_code 63 = .ok (.aload_n 0, 1) := by decide +kernel
theorem own_d34_64 : decode prog_8_method_7_code 64 = .ok (.getfield 13, 3) := by decide +kernel
theorem own_d34_67 : decode prog_8_method_7_code 67 = .ok (.invokevirtual 101, 3) := by decide +kernel
theorem own_d34_70 : decode prog_8_method_7_code 70 = .ok (.invokevirtual 92, 3) := by decide +kernel
theorem own_d34_73 : decode prog_8_method_7_code 73 = .ok (.areturn, 1) := by decide +kernel
theorem own_ef_own_tst (m : MethodId) (a : Addr) : entryFrame m #[(.ref a)] 2 = mkF m 0 #[rv a, .unset] [] := by first | (simp [entryFrame, mkF, argsToLocals, Value.category]; done) | rfl
set_option maxRecDepth 65536 in
set_option maxHeartbeats 40000000 in
theorem own_tst (l : Launch) (Z : State) (a0 : Array Value) (H : own_Wld Z a0) {cw : List Jvm.Cond} (a : Addr) (x t : Addr) (pt : Int32) (cs : List Int32) (d1 d2 : Addr) (h0 : Heap) (O0 : Ext Z.heap h0) (E_a : Exa Z h0 a "com/example/latchkey/latchkey/ListenAddress") (F_h : Fld Z h0 a "com/example/latchkey/latchkey/ListenAddress" "host" "Ljava/lang/String;" (.ref x)) (F_p : Fld Z h0 a "com/example/latchkey/latchkey/ListenAddress" "port" "I" (.int pt)) (St_x : Own.Str Z h0 x t cs) (hl3 : cs.length ≤ 3) (hp : 0 ≤ pt.toInt ∧ pt.toInt ≤ 65535) {k1 k2 : ClassId} (DG : own_Dig Z d1 d2 k1 k2) :
    Own.Con l Z consts_1 (⟨"com/example/latchkey/latchkey/ListenAddress", "toString", "()Ljava/lang/String;"⟩ : MethodName) prog_8_method_7_code 2 (some (.object "java/lang/String")) cw ({ frames := 6, cells := 22, slots := 448, locals := 113 } : Room) #[(.ref a)] h0 (fun v h => Keep h0 h [] ∧ ∃ y u, v = some (.ref y) ∧ Own.Str Z h y u ((own_host cs ++ [58]) ++ own_dig pt) ∧ h0.size ≤ y) := by
  have hw := H.1
  have hW := fun (i : Nat) (w : Jvm.Cond) (e : tables_1[i]? = some w) => hw w (List.mem_of_getElem? e)
  have hCm := H.2.1
  have hSi := H.2.2.1
  have hEL := H.2.2.2
  have hWs : ∀ d ∈ StrChars.Road.words, d.before a0 Z = true := fun d hd => hw d (own_wbackV d hd)
  have hWl : ∀ d ∈ StrChars.Road.wordsLen, d.before a0 Z = true := fun d hd => hw d (own_wlenW d hd)
  have hSA : ∀ d ∈ Bundle.stringAtoms, d.before a0 Z = true := fun d hd => hw d (own_wSA d hd)
  refine Own.Con.of own_pn500896 hEL O0 ?_
  intro p e s m below meth c T0 G vm0 hx hby hml hret hnm hG hR S0
  have hz : ∀ L : Array Slot, L.size = 2 → L.size = c.maxLocals := fun L q => q.trans hml.symm
  rw [own_ef_own_tst]
  show G T0 (mkF m 0 #[rv a, .unset] [])
  obtain ⟨-, -, -, -, -, hr, -⟩ := id St_x
  refine hG.st (fun _ q => XS.aloadN S0.here hx rfl (hb hby own_d34_0) rfl rfl q) ?_
  show G T0 (mkF m 1 #[rv a, .unset] [(.ref a)])
  refine Own.Sit.getF hG S0 hx (host := "") (Or.inl (hW 34 _ rfl)) Via.refl F_h rfl rfl (hb hby own_d34_1) (fun T640 S640 => ?_)
  show G T640 (mkF m 4 #[rv a, .unset] [(.ref x)])
  refine Own.Sit.ldc hG S640 hx hEL (hW 43 _ rfl) hSA (by decide) (cs := ([58] : List Int32)) ⟨by decide, by decide⟩ (by decide) (by decide) rfl (hb hby own_d34_4) (nn := 4) (by decide) (by decide) (by decide) (by decide) (fun vm641 T641 h641 x641 y641 S641 J641 St641 L641 => ?_)
  have St642 := J641.str St_x nin0 nin0
  show G T641 (mkF m 6 #[rv a, .unset] [(.ref x641), (.ref x)])
  refine Own.Sit.callV hG S641 hx hEL (as := [(.ref x641)]) (hW 44 _ rfl) (hW 45 _ rfl) (hW 47 _ rfl) (hW 46 _ rfl) (hW 7 _ rfl) (hW 48 _ rfl) (by decide) St642.exa (own_ctn l Z a0 H x x641 t y641 cs h641 S641.old hl3 St642 St641) own_pd71c128 rfl rfl (hz _ rfl) (rest := []) rfl (W := 0) (Own.hw0 rfl rfl) (hb hby own_d34_6) (by decide) (by decide) (by decide) (by decide) (fun v643 vm643 T643 h643 S643 C643 q643 => ?_)
  obtain ⟨K643, r643, rfl, hq643⟩ := q643
  have J643 : Own.Stp Z consts_1 vm641 h641 vm643 h643 [] := ⟨K643, C643⟩
  show G T643 (mkF m 9 #[rv a, .unset] [(.int r643)])
  have JT : ∀ (vm644 : Vm) (T644 : State) (h644 : Heap) (xs : Addr) (ts : Addr) (os : List Int32), Own.Sit p l e ({ frames := 6, cells := 22, slots := 448, locals := 113 } : Room) s m #[(.ref a)] below meth c Z consts_1 "com/example/latchkey/latchkey/ListenAddress" vm644 T644 h644 16 400 → Own.Stp Z consts_1 vm643 h643 vm644 h644 [] → Own.Str Z h644 xs ts os → os = own_host cs → G T644 (mkF m 46 #[rv a, .unset] [(.ref xs)]) := by
    intro vm644 T644 h644 xs ts os S644 J644 So ho
    have hlo : os.length ≤ 5 := by rw [ho]; exact own_hostl hl3
    have hro : ∀ c ∈ os, ¬ c < 0 ∧ ¬ (255 : Int32) < c := by rw [ho]; exact own_hostr hr
    show G T644 (mkF m 46 #[rv a, .unset] [(.ref xs)])
    refine hG.st (fun _ q => XS.astoreN S644.here hx rfl (hb hby own_d34_46) rfl rfl (l' := #[rv a, rv xs]) rfl q) ?_
    show G T644 (mkF m 47 #[rv a, rv xs] [])
    refine Own.Sit.newO hG S644 hx (hW 78 _ rfl) (hW 79 _ rfl) (hW 80 _ rfl) rfl (hb hby own_d34_47) (by decide) (by decide) (fun T645 h645 x645 g_x645 S645 J645 Sf645 E645 D645 => ?_)
    have lt_x645 := E645.lt
    have ga_x645 : Z.heap.size ≤ x645 := Nat.le_trans S644.le (Nat.le_of_eq g_x645.symm)
    have F646 : Fld Z h645 x645 "java/lang/AbstractStringBuilder" "value" "[B" .null := D645 (Or.inl (hW 93 _ rfl)) (ty := (.array .byte)) (by decide)
    have F647 : Fld Z h645 x645 "java/lang/AbstractStringBuilder" "coder" "B" (.int 0) := D645 (Or.inl (hW 95 _ rfl)) (ty := .byte) (by decide)
    have F648 : Fld Z h645 x645 "java/lang/AbstractStringBuilder" "count" "I" (.int 0) := D645 (Or.inl (hW 112 _ rfl)) (ty := .int) (by decide)
    refine hG.st (fun _ q => XS.dup S645.here hx rfl (hb hby own_d34_50) rfl rfl q) ?_
    show G T645 (mkF m 51 #[rv a, rv xs] [(.ref x645), (.ref x645)])
    refine Own.Sit.callI hG S645 hx hEL rfl (as := []) (hW 81 _ rfl) (hW 82 _ rfl) (hW 80 _ rfl) (hW 83 _ rfl) (by decide) (own_bin l Z a0 H x645 h645 S645.old ga_x645 E645 F646 F647 F648) own_pd62febe rfl rfl (hz _ rfl) (rest := [(.ref x645)]) rfl (W := 1) (Own.hw0 rfl rfl) (hb hby own_d34_51) (by decide) (by decide) (by decide) (by decide) (fun v649 vm649 T649 h649 S649 C649 q649 => ?_)
    obtain ⟨K649, rfl, ar649, kv649, ur649, SB649⟩ := q649
    have J649 : Own.Stp Z consts_1 vm644 h645 vm649 h649 [x645] := ⟨K649, C649⟩
    obtain ⟨E_b650, Fv_b650, Fc_b650, Fn_b650, A_r650⟩ := id SB649
    have ga_ar649 : Z.heap.size ≤ ar649 := Nat.le_trans S645.le ur649
    refine hG.st (fun _ q => XS.aloadN S649.here hx rfl (hb hby own_d34_54) rfl rfl q) ?_
    show G T649 (mkF m 55 #[rv a, rv xs] [(.ref xs), (.ref x645)])
    have SB651 : own_SB Z h649 x645 ar649 kv649 ([] : List Int32) := ⟨E_b650, Fv_b650, Fc_b650, Fn_b650, A_r650⟩
    have J652 : Own.Stp Z consts_1 vm644 h644 vm649 h649 [] := Own.Stp.trans J645 J649 (all0) (allS (Or.inr (Nat.le_of_eq g_x645.symm)) all0)
    have St653 := J652.str So nin0 nin0
    refine Own.Sit.callV hG S649 hx hEL (as := [(.ref xs)]) (hW 96 _ rfl) (hW 97 _ rfl) (hW 99 _ rfl) (hW 98 _ rfl) (hW 80 _ rfl) (hW 100 _ rfl) (by decide) E_b650 (own_bps l Z a0 H x645 xs ar649 ([] : List Int32) ts os h649 S649.old SB651 St653 (by simp only [List.length_append, List.length_cons, List.length_nil, own_dig1, own_dig2, own_dig3, own_dig4, own_dig5]; omega) ga_x645 ga_ar649) own_pd59ea1a rfl rfl (hz _ rfl) (rest := []) rfl (W := 0) (Own.hw0 rfl rfl) (hb hby own_d34_55) (by decide) (by decide) (by decide) (by decide) (fun v654 vm654 T654 h654 S654 C654 q654 => ?_)
    obtain ⟨K654, rfl, SB654⟩ := q654
    have J654 : Own.Stp Z consts_1 vm649 h649 vm654 h654 [x645, ar649] := ⟨K654, C654⟩
    obtain ⟨E_b655, Fv_b655, Fc_b655, Fn_b655, A_r655⟩ := id SB654
    show G T654 (mkF m 58 #[rv a, rv xs] [(.ref x645)])
    refine Own.Sit.ldc hG S654 hx hEL (hW 43 _ rfl) hSA (by decide) (cs := ([58] : List Int32)) ⟨by decide, by decide⟩ (by decide) (by decide) rfl (hb hby own_d34_58) (nn := 4) (by decide) (by decide) (by decide) (by decide) (fun vm656 T656 h656 x656 y656 S656 J656 St656 L656 => ?_)
    have E657 := J656.exa E_b655
    have F658 := J656.fld Fv_b655 nin0
    have F659 := J656.fld Fc_b655 nin0
    have F660 := J656.fld Fn_b655 nin0
    have V661 := J656.arv A_r655 nin0
    have SB662 : own_SB Z h656 x645 ar649 kv649 (([] : List Int32) ++ os) := ⟨E657, F658, F659, F660, V661⟩
    show G T656 (mkF m 60 #[rv a, rv xs] [(.ref x656), (.ref x645)])
    refine Own.Sit.callV hG S656 hx hEL (as := [(.ref x656)]) (hW 96 _ rfl) (hW 97 _ rfl) (hW 99 _ rfl) (hW 98 _ rfl) (hW 80 _ rfl) (hW 100 _ rfl) (by decide) E657 (own_bps l Z a0 H x645 x656 ar649 (([] : List Int32) ++ os) y656 ([58] : List Int32) h656 S656.old SB662 St656 (by simp only [List.length_append, List.length_cons, List.length_nil, own_dig1, own_dig2, own_dig3, own_dig4, own_dig5]; omega) ga_x645 ga_ar649) own_pd59ea1a rfl rfl (hz _ rfl) (rest := []) rfl (W := 0) (Own.hw0 rfl rfl) (hb hby own_d34_60) (by decide) (by decide) (by decide) (by decide) (fun v663 vm663 T663 h663 S663 C663 q663 => ?_)
    obtain ⟨K663, rfl, SB663⟩ := q663
    have J663 : Own.Stp Z consts_1 vm656 h656 vm663 h663 [x645, ar649] := ⟨K663, C663⟩
    obtain ⟨E_b664, Fv_b664, Fc_b664, Fn_b664, A_r664⟩ := id SB663
    show G T663 (mkF m 63 #[rv a, rv xs] [(.ref x645)])
    rcases own_pr hp with hp | hp | hp | hp | hp
    ·
      refine hG.st (fun _ q => XS.aloadN S663.here hx rfl (hb hby own_d34_63) rfl rfl q) ?_
      show G T663 (mkF m 64 #[rv a, rv xs] [(.ref a), (.ref x645)])
      have J665 : Own.Stp Z consts_1 vm0 h0 vm643 h643 [] := Own.Stp.trans J641 J643 (all0) all0
      have J666 : Own.Stp Z consts_1 vm0 h0 vm644 h644 [] := Own.Stp.trans J665 J644 (all0) all0
      have J667 : Own.Stp Z consts_1 vm0 h0 vm644 h645 [] := Own.Stp.trans J666 J645 (all0) all0
      have J668 : Own.Stp Z consts_1 vm0 h0 vm649 h649 [] := Own.Stp.trans J667 J649 (all0) (allS (Or.inr (Nat.le_trans J666.1.1 (Nat.le_of_eq g_x645.symm))) all0)
      have J669 : Own.Stp Z consts_1 vm0 h0 vm654 h654 [] := Own.Stp.trans J668 J654 (all0) (allS (Or.inr (Nat.le_trans J666.1.1 (Nat.le_of_eq g_x645.symm))) (allS (Or.inr (Nat.le_trans J667.1.1 ur649)) all0))
      have J670 : Own.Stp Z consts_1 vm0 h0 vm656 h656 [] := Own.Stp.trans J669 J656 (all0) all0
      have J671 : Own.Stp Z consts_1 vm0 h0 vm663 h663 [] := Own.Stp.trans J670 J663 (all0) (allS (Or.inr (Nat.le_trans J666.1.1 (Nat.le_of_eq g_x645.symm))) (allS (Or.inr (Nat.le_trans J667.1.1 ur649)) all0))
      have F672 := J671.fld F_p nin0
      refine Own.Sit.getF hG S663 hx (host := "") (Or.inl (hW 36 _ rfl)) Via.refl F672 rfl rfl (hb hby own_d34_64) (fun T673 S673 => ?_)
      have SB674 : own_SB Z h663 x645 ar649 kv649 ((([] : List Int32) ++ os) ++ ([58] : List Int32)) := ⟨E_b664, Fv_b664, Fc_b664, Fn_b664, A_r664⟩
      show G T673 (mkF m 67 #[rv a, rv xs] [(.int pt), (.ref x645)])
      refine Own.Sit.callV hG S673 hx hEL (as := [(.int pt)]) (hW 138 _ rfl) (hW 139 _ rfl) (hW 141 _ rfl) (hW 140 _ rfl) (hW 80 _ rfl) (hW 142 _ rfl) (by decide) E_b664 (own_bpi1 l Z a0 H x645 pt ar649 ((([] : List Int32) ++ os) ++ ([58] : List Int32)) d1 d2 h663 S673.old SB674 (by simp only [List.length_append, List.length_cons, List.length_nil, own_dig1, own_dig2, own_dig3, own_dig4, own_dig5]; omega) ga_x645 ga_ar649 DG hp) own_pd7d34f6 rfl rfl (hz _ rfl) (rest := []) rfl (W := 0) (Own.hw0 rfl rfl) (hb hby own_d34_67) (by decide) (by decide) (by decide) (by decide) (fun v675 vm675 T675 h675 S675 C675 q675 => ?_)
      obtain ⟨K675, rfl, SB675⟩ := q675
      have J675 : Own.Stp Z consts_1 vm663 h663 vm675 h675 [x645, ar649] := ⟨K675, C675⟩
      obtain ⟨E_b676, Fv_b676, Fc_b676, Fn_b676, A_r676⟩ := id SB675
      have SB677 : own_SB Z h675 x645 ar649 kv649 (((([] : List Int32) ++ os) ++ ([58] : List Int32)) ++ own_dig1 pt) := ⟨E_b676, Fv_b676, Fc_b676, Fn_b676, A_r676⟩
      show G T675 (mkF m 70 #[rv a, rv xs] [(.ref x645)])
      refine Own.Sit.callV hG S675 hx hEL (as := []) (hW 160 _ rfl) (hW 161 _ rfl) (hW 163 _ rfl) (hW 162 _ rfl) (hW 80 _ rfl) (hW 164 _ rfl) (by decide) E_b676 (own_tsb l Z a0 H x645 ar649 (((([] : List Int32) ++ os) ++ ([58] : List Int32)) ++ own_dig1 pt) h675 S675.old SB677 (own_ra (own_ra (own_ra own_rn hro) (by decide)) (own_rd1 ⟨by omega, by omega⟩)) (by simp only [List.length_append, List.length_cons, List.length_nil, own_dig1, own_dig2, own_dig3, own_dig4, own_dig5]; omega)) own_pdaf964f rfl rfl (hz _ rfl) (rest := []) rfl (W := 0) (Own.hw0 rfl rfl) (hb hby own_d34_70) (by decide) (by decide) (by decide) (by decide) (fun v678 vm678 T678 h678 S678 C678 q678 => ?_)
      obtain ⟨K678, x678, y678, rfl, St678, u678⟩ := q678
      have J678 : Own.Stp Z consts_1 vm675 h675 vm678 h678 [] := ⟨K678, C678⟩
      have J679 : Own.Stp Z consts_1 vm0 h0 vm675 h675 [] := Own.Stp.trans J671 J675 (all0) (allS (Or.inr (Nat.le_trans J666.1.1 (Nat.le_of_eq g_x645.symm))) (allS (Or.inr (Nat.le_trans J667.1.1 ur649)) all0))
      have J680 : Own.Stp Z consts_1 vm0 h0 vm678 h678 [] := Own.Stp.trans J679 J678 (all0) all0
      show G T678 (mkF m 73 #[rv a, rv xs] [(.ref x678)])
      exact Own.Sit.retO hR S678 hx hret rfl (Or.inr (Or.inr (Or.inr (Or.inr ⟨rfl, rfl, rfl⟩)))) (hb hby own_d34_73) (by decide) (by decide) ⟨J680.1, x678, _, rfl, (by rw [own_dE1 hp, ← ho]; exact St678), (Nat.le_trans J679.1.1 u678)⟩
    ·
      refine hG.st (fun _ q => XS.aloadN S663.here hx rfl (hb hby own_d34_63) rfl rfl q) ?_
      show G T663 (mkF m 64 #[rv a, rv xs] [(.ref a), (.ref x645)])
      have J681 : Own.Stp Z consts_1 vm0 h0 vm643 h643 [] := Own.Stp.trans J641 J643 (all0) all0
      have J682 : Own.Stp Z consts_1 vm0 h0 vm644 h644 [] := Own.Stp.trans J681 J644 (all0) all0
      have J683 : Own.Stp Z consts_1 vm0 h0 vm644 h645 [] := Own.Stp.trans J682 J645 (all0) all0
      have J684 : Own.Stp Z consts_1 vm0 h0 vm649 h649 [] := Own.Stp.trans J683 J649 (all0) (allS (Or.inr (Nat.le_trans J682.1.1 (Nat.le_of_eq g_x645.symm))) all0)
      have J685 : Own.Stp Z consts_1 vm0 h0 vm654 h654 [] := Own.Stp.trans J684 J654 (all0) (allS (Or.inr (Nat.le_trans J682.1.1 (Nat.le_of_eq g_x645.symm))) (allS (Or.inr (Nat.le_trans J683.1.1 ur649)) all0))
      have J686 : Own.Stp Z consts_1 vm0 h0 vm656 h656 [] := Own.Stp.trans J685 J656 (all0) all0
      have J687 : Own.Stp Z consts_1 vm0 h0 vm663 h663 [] := Own.Stp.trans J686 J663 (all0) (allS (Or.inr (Nat.le_trans J682.1.1 (Nat.le_of_eq g_x645.symm))) (allS (Or.inr (Nat.le_trans J683.1.1 ur649)) all0))
      have F688 := J687.fld F_p nin0
      refine Own.Sit.getF hG S663 hx (host := "") (Or.inl (hW 36 _ rfl)) Via.refl F688 rfl rfl (hb hby own_d34_64) (fun T689 S689 => ?_)
      have SB690 : own_SB Z h663 x645 ar649 kv649 ((([] : List Int32) ++ os) ++ ([58] : List Int32)) := ⟨E_b664, Fv_b664, Fc_b664, Fn_b664, A_r664⟩
      show G T689 (mkF m 67 #[rv a, rv xs] [(.int pt), (.ref x645)])
      refine Own.Sit.callV hG S689 hx hEL (as := [(.int pt)]) (hW 138 _ rfl) (hW 139 _ rfl) (hW 141 _ rfl) (hW 140 _ rfl) (hW 80 _ rfl) (hW 142 _ rfl) (by decide) E_b664 (own_bpi2 l Z a0 H x645 pt ar649 ((([] : List Int32) ++ os) ++ ([58] : List Int32)) d1 d2 h663 S689.old SB690 (by simp only [List.length_append, List.length_cons, List.length_nil, own_dig1, own_dig2, own_dig3, own_dig4, own_dig5]; omega) ga_x645 ga_ar649 DG hp) own_pd7d34f6 rfl rfl (hz _ rfl) (rest := []) rfl (W := 0) (Own.hw0 rfl rfl) (hb hby own_d34_67) (by decide) (by decide) (by decide) (by decide) (fun v691 vm691 T691 h691 S691 C691 q691 => ?_)
      obtain ⟨K691, rfl, SB691⟩ := q691
      have J691 : Own.Stp Z consts_1 vm663 h663 vm691 h691 [x645, ar649] := ⟨K691, C691⟩
      obtain ⟨E_b692, Fv_b692, Fc_b692, Fn_b692, A_r692⟩ := id SB691
      have SB693 : own_SB Z h691 x645 ar649 kv649 (((([] : List Int32) ++ os) ++ ([58] : List Int32)) ++ own_dig2 pt) := ⟨E_b692, Fv_b692, Fc_b692, Fn_b692, A_r692⟩
      show G T691 (mkF m 70 #[rv a, rv xs] [(.ref x645)])
      refine Own.Sit.callV hG S691 hx hEL (as := []) (hW 160 _ rfl) (hW 161 _ rfl) (hW 163 _ rfl) (hW 162 _ rfl) (hW 80 _ rfl) (hW 164 _ rfl) (by decide) E_b692 (own_tsb l Z a0 H x645 ar649 (((([] : List Int32) ++ os) ++ ([58] : List Int32)) ++ own_dig2 pt) h691 S691.old SB693 (own_ra (own_ra (own_ra own_rn hro) (by decide)) (own_rd2 ⟨by omega, by omega⟩)) (by simp only [List.length_append, List.length_cons, List.length_nil, own_dig1, own_dig2, own_dig3, own_dig4, own_dig5]; omega)) own_pdaf964f rfl rfl (hz _ rfl) (rest := []) rfl (W := 0) (Own.hw0 rfl rfl) (hb hby own_d34_70) (by decide) (by decide) (by decide) (by decide) (fun v694 vm694 T694 h694 S694 C694 q694 => ?_)
      obtain ⟨K694, x694, y694, rfl, St694, u694⟩ := q694
      have J694 : Own.Stp Z consts_1 vm691 h691 vm694 h694 [] := ⟨K694, C694⟩
      have J695 : Own.Stp Z consts_1 vm0 h0 vm691 h691 [] := Own.Stp.trans J687 J691 (all0) (allS (Or.inr (Nat.le_trans J682.1.1 (Nat.le_of_eq g_x645.symm))) (allS (Or.inr (Nat.le_trans J683.1.1 ur649)) all0))
      have J696 : Own.Stp Z consts_1 vm0 h0 vm694 h694 [] := Own.Stp.trans J695 J694 (all0) all0
      show G T694 (mkF m 73 #[rv a, rv xs] [(.ref x694)])
      exact Own.Sit.retO hR S694 hx hret rfl (Or.inr (Or.inr (Or.inr (Or.inr ⟨rfl, rfl, rfl⟩)))) (hb hby own_d34_73) (by decide) (by decide) ⟨J696.1, x694, _, rfl, (by rw [own_dE2 hp, ← ho]; exact St694), (Nat.le_trans J695.1.1 u694)⟩
    ·
      refine hG.st (fun _ q => XS.aloadN S663.here hx rfl (hb hby own_d34_63) rfl rfl q) ?_
      show G T663 (mkF m 64 #[rv a, rv xs] [(.ref a), (.ref x645)])
      have J697 : Own.Stp Z consts_1 vm0 h0 vm643 h643 [] := Own.Stp.trans J641 J643 (all0) all0
      have J698 : Own.Stp Z consts_1 vm0 h0 vm644 h644 [] := Own.Stp.trans J697 J644 (all0) all0
      have J699 : Own.Stp Z consts_1 vm0 h0 vm644 h645 [] := Own.Stp.trans J698 J645 (all0) all0
      have J700 : Own.Stp Z consts_1 vm0 h0 vm649 h649 [] := Own.Stp.trans J699 J649 (all0) (allS (Or.inr (Nat.le_trans J698.1.1 (Nat.le_of_eq g_x645.symm))) all0)
      have J701 : Own.Stp Z consts_1 vm0 h0 vm654 h654 [] := Own.Stp.trans J700 J654 (all0) (allS (Or.inr (Nat.le_trans J698.1.1 (Nat.le_of_eq g_x645.symm))) (allS (Or.inr (Nat.le_trans J699.1.1 ur649)) all0))
      have J702 : Own.Stp Z consts_1 vm0 h0 vm656 h656 [] := Own.Stp.trans J701 J656 (all0) all0
      have J703 : Own.Stp Z consts_1 vm0 h0 vm663 h663 [] := Own.Stp.trans J702 J663 (all0) (allS (Or.inr (Nat.le_trans J698.1.1 (Nat.le_of_eq g_x645.symm))) (allS (Or.inr (Nat.le_trans J699.1.1 ur649)) all0))
      have F704 := J703.fld F_p nin0
      refine Own.Sit.getF hG S663 hx (host := "") (Or.inl (hW 36 _ rfl)) Via.refl F704 rfl rfl (hb hby own_d34_64) (fun T705 S705 => ?_)
      have SB706 : own_SB Z h663 x645 ar649 kv649 ((([] : List Int32) ++ os) ++ ([58] : List Int32)) := ⟨E_b664, Fv_b664, Fc_b664, Fn_b664, A_r664⟩
      show G T705 (mkF m 67 #[rv a, rv xs] [(.int pt), (.ref x645)])
      refine Own.Sit.callV hG S705 hx hEL (as := [(.int pt)]) (hW 138 _ rfl) (hW 139 _ rfl) (hW 141 _ rfl) (hW 140 _ rfl) (hW 80 _ rfl) (hW 142 _ rfl) (by decide) E_b664 (own_bpi3 l Z a0 H x645 pt ar649 ((([] : List Int32) ++ os) ++ ([58] : List Int32)) d1 d2 h663 S705.old SB706 (by simp only [List.length_append, List.length_cons, List.length_nil, own_dig1, own_dig2, own_dig3, own_dig4, own_dig5]; omega) ga_x645 ga_ar649 DG hp) own_pd7d34f6 rfl rfl (hz _ rfl) (rest := []) rfl (W := 0) (Own.hw0 rfl rfl) (hb hby own_d34_67) (by decide) (by decide) (by decide) (by decide) (fun v707 vm707 T707 h707 S707 C707 q707 => ?_)
      obtain ⟨K707, rfl, SB707⟩ := q707
      have J707 : Own.Stp Z consts_1 vm663 h663 vm707 h707 [x645, ar649] := ⟨K707, C707⟩
      obtain ⟨E_b708, Fv_b708, Fc_b708, Fn_b708, A_r708⟩ := id SB707
      have SB709 : own_SB Z h707 x645 ar649 kv649 (((([] : List Int32) ++ os) ++ ([58] : List Int32)) ++ own_dig3 pt) := ⟨E_b708, Fv_b708, Fc_b708, Fn_b708, A_r708⟩
      show G T707 (mkF m 70 #[rv a, rv xs] [(.ref x645)])
      refine Own.Sit.callV hG S707 hx hEL (as := []) (hW 160 _ rfl) (hW 161 _ rfl) (hW 163 _ rfl) (hW 162 _ rfl) (hW 80 _ rfl) (hW 164 _ rfl) (by decide) E_b708 (own_tsb l Z a0 H x645 ar649 (((([] : List Int32) ++ os) ++ ([58] : List Int32)) ++ own_dig3 pt) h707 S707.old SB709 (own_ra (own_ra (own_ra own_rn hro) (by decide)) (own_rd3 ⟨by omega, by omega⟩)) (by simp only [List.length_append, List.length_cons, List.length_nil, own_dig1, own_dig2, own_dig3, own_dig4, own_dig5]; omega)) own_pdaf964f rfl rfl (hz _ rfl) (rest := []) rfl (W := 0) (Own.hw0 rfl rfl) (hb hby own_d34_70) (by decide) (by decide) (by decide) (by decide) (fun v710 vm710 T710 h710 S710 C710 q710 => ?_)
      obtain ⟨K710, x710, y710, rfl, St710, u710⟩ := q710
      have J710 : Own.Stp Z consts_1 vm707 h707 vm710 h710 [] := ⟨K710, C710⟩
      have J711 : Own.Stp Z consts_1 vm0 h0 vm707 h707 [] := Own.Stp.trans J703 J707 (all0) (allS (Or.inr (Nat.le_trans J698.1.1 (Nat.le_of_eq g_x645.symm))) (allS (Or.inr (Nat.le_trans J699.1.1 ur649)) all0))
      have J712 : Own.Stp Z consts_1 vm0 h0 vm710 h710 [] := Own.Stp.trans J711 J710 (all0) all0
      show G T710 (mkF m 73 #[rv a, rv xs] [(.ref x710)])
      exact Own.Sit.retO hR S710 hx hret rfl (Or.inr (Or.inr (Or.inr (Or.inr ⟨rfl, rfl, rfl⟩)))) (hb hby own_d34_73) (by decide) (by decide) ⟨J712.1, x710, _, rfl, (by rw [own_dE3 hp, ← ho]; exact St710), (Nat.le_trans J711.1.1 u710)⟩
    ·
      refine hG.st (fun _ q => XS.aloadN S663.here hx rfl (hb hby own_d34_63) rfl rfl q) ?_
      show G T663 (mkF m 64 #[rv a, rv xs] [(.ref a), (.ref x645)])
      have J713 : Own.Stp Z consts_1 vm0 h0 vm643 h643 [] := Own.Stp.trans J641 J643 (all0) all0
      have J714 : Own.Stp Z consts_1 vm0 h0 vm644 h644 [] := Own.Stp.trans J713 J644 (all0) all0
      have J715 : Own.Stp Z consts_1 vm0 h0 vm644 h645 [] := Own.Stp.trans J714 J645 (all0) all0
      have J716 : Own.Stp Z consts_1 vm0 h0 vm649 h649 [] := Own.Stp.trans J715 J649 (all0) (allS (Or.inr (Nat.le_trans J714.1.1 (Nat.le_of_eq g_x645.symm))) all0)
      have J717 : Own.Stp Z consts_1 vm0 h0 vm654 h654 [] := Own.Stp.trans J716 J654 (all0) (allS (Or.inr (Nat.le_trans J714.1.1 (Nat.le_of_eq g_x645.symm))) (allS (Or.inr (Nat.le_trans J715.1.1 ur649)) all0))
      have J718 : Own.Stp Z consts_1 vm0 h0 vm656 h656 [] := Own.Stp.trans J717 J656 (all0) all0
      have J719 : Own.Stp Z consts_1 vm0 h0 vm663 h663 [] := Own.Stp.trans J718 J663 (all0) (allS (Or.inr (Nat.le_trans J714.1.1 (Nat.le_of_eq g_x645.symm))) (allS (Or.inr (Nat.le_trans J715.1.1 ur649)) all0))
      have F720 := J719.fld F_p nin0
      refine Own.Sit.getF hG S663 hx (host := "") (Or.inl (hW 36 _ rfl)) Via.refl F720 rfl rfl (hb hby own_d34_64) (fun T721 S721 => ?_)
      have SB722 : own_SB Z h663 x645 ar649 kv649 ((([] : List Int32) ++ os) ++ ([58] : List Int32)) := ⟨E_b664, Fv_b664, Fc_b664, Fn_b664, A_r664⟩
      show G T721 (mkF m 67 #[rv a, rv xs] [(.int pt), (.ref x645)])
      refine Own.Sit.callV hG S721 hx hEL (as := [(.int pt)]) (hW 138 _ rfl) (hW 139 _ rfl) (hW 141 _ rfl) (hW 140 _ rfl) (hW 80 _ rfl) (hW 142 _ rfl) (by decide) E_b664 (own_bpi4 l Z a0 H x645 pt ar649 ((([] : List Int32) ++ os) ++ ([58] : List Int32)) d1 d2 h663 S721.old SB722 (by simp only [List.length_append, List.length_cons, List.length_nil, own_dig1, own_dig2, own_dig3, own_dig4, own_dig5]; omega) ga_x645 ga_ar649 DG hp) own_pd7d34f6 rfl rfl (hz _ rfl) (rest := []) rfl (W := 0) (Own.hw0 rfl rfl) (hb hby own_d34_67) (by decide) (by decide) (by decide) (by decide) (fun v723 vm723 T723 h723 S723 C723 q723 => ?_)
      obtain ⟨K723, rfl, SB723⟩ := q723
      have J723 : Own.Stp Z consts_1 vm663 h663 vm723 h723 [x645, ar649] := ⟨K723, C723⟩
      obtain ⟨E_b724, Fv_b724, Fc_b724, Fn_b724, A_r724⟩ := id SB723
      have SB725 : own_SB Z h723 x645 ar649 kv649 (((([] : List Int32) ++ os) ++ ([58] : List Int32)) ++ own_dig4 pt) := ⟨E_b724, Fv_b724, Fc_b724, Fn_b724, A_r724⟩
      show G T723 (mkF m 70 #[rv a, rv xs] [(.ref x645)])
      refine Own.Sit.callV hG S723 hx hEL (as := []) (hW 160 _ rfl) (hW 161 _ rfl) (hW 163 _ rfl) (hW 162 _ rfl) (hW 80 _ rfl) (hW 164 _ rfl) (by decide) E_b724 (own_tsb l Z a0 H x645 ar649 (((([] : List Int32) ++ os) ++ ([58] : List Int32)) ++ own_dig4 pt) h723 S723.old SB725 (own_ra (own_ra (own_ra own_rn hro) (by decide)) (own_rd4 ⟨by omega, by omega⟩)) (by simp only [List.length_append, List.length_cons, List.length_nil, own_dig1, own_dig2, own_dig3, own_dig4, own_dig5]; omega)) own_pdaf964f rfl rfl (hz _ rfl) (rest := []) rfl (W := 0) (Own.hw0 rfl rfl) (hb hby own_d34_70) (by decide) (by decide) (by decide) (by decide) (fun v726 vm726 T726 h726 S726 C726 q726 => ?_)
      obtain ⟨K726, x726, y726, rfl, St726, u726⟩ := q726
      have J726 : Own.Stp Z consts_1 vm723 h723 vm726 h726 [] := ⟨K726, C726⟩
      have J727 : Own.Stp Z consts_1 vm0 h0 vm723 h723 [] := Own.Stp.trans J719 J723 (all0) (allS (Or.inr (Nat.le_trans J714.1.1 (Nat.le_of_eq g_x645.symm))) (allS (Or.inr (Nat.le_trans J715.1.1 ur649)) all0))
      have J728 : Own.Stp Z consts_1 vm0 h0 vm726 h726 [] := Own.Stp.trans J727 J726 (all0) all0
      show G T726 (mkF m 73 #[rv a, rv xs] [(.ref x726)])
      exact Own.Sit.retO hR S726 hx hret rfl (Or.inr (Or.inr (Or.inr (Or.inr ⟨rfl, rfl, rfl⟩)))) (hb hby own_d34_73) (by decide) (by decide) ⟨J728.1, x726, _, rfl, (by rw [own_dE4 hp, ← ho]; exact St726), (Nat.le_trans J727.1.1 u726)⟩
    ·
      refine hG.st (fun _ q => XS.aloadN S663.here hx rfl (hb hby own_d34_63) rfl rfl q) ?_
      show G T663 (mkF m 64 #[rv a, rv xs] [(.ref a), (.ref x645)])
      have J729 : Own.Stp Z consts_1 vm0 h0 vm643 h643 [] := Own.Stp.trans J641 J643 (all0) all0
      have J730 : Own.Stp Z consts_1 vm0 h0 vm644 h644 [] := Own.Stp.trans J729 J644 (all0) all0
      have J731 : Own.Stp Z consts_1 vm0 h0 vm644 h645 [] := Own.Stp.trans J730 J645 (all0) all0
      have J732 : Own.Stp Z consts_1 vm0 h0 vm649 h649 [] := Own.Stp.trans J731 J649 (all0) (allS (Or.inr (Nat.le_trans J730.1.1 (Nat.le_of_eq g_x645.symm))) all0)
      have J733 : Own.Stp Z consts_1 vm0 h0 vm654 h654 [] := Own.Stp.trans J732 J654 (all0) (allS (Or.inr (Nat.le_trans J730.1.1 (Nat.le_of_eq g_x645.symm))) (allS (Or.inr (Nat.le_trans J731.1.1 ur649)) all0))
      have J734 : Own.Stp Z consts_1 vm0 h0 vm656 h656 [] := Own.Stp.trans J733 J656 (all0) all0
      have J735 : Own.Stp Z consts_1 vm0 h0 vm663 h663 [] := Own.Stp.trans J734 J663 (all0) (allS (Or.inr (Nat.le_trans J730.1.1 (Nat.le_of_eq g_x645.symm))) (allS (Or.inr (Nat.le_trans J731.1.1 ur649)) all0))
      have F736 := J735.fld F_p nin0
      refine Own.Sit.getF hG S663 hx (host := "") (Or.inl (hW 36 _ rfl)) Via.refl F736 rfl rfl (hb hby own_d34_64) (fun T737 S737 => ?_)
      have SB738 : own_SB Z h663 x645 ar649 kv649 ((([] : List Int32) ++ os) ++ ([58] : List Int32)) := ⟨E_b664, Fv_b664, Fc_b664, Fn_b664, A_r664⟩
      show G T737 (mkF m 67 #[rv a, rv xs] [(.int pt), (.ref x645)])
      refine Own.Sit.callV hG S737 hx hEL (as := [(.int pt)]) (hW 138 _ rfl) (hW 139 _ rfl) (hW 141 _ rfl) (hW 140 _ rfl) (hW 80 _ rfl) (hW 142 _ rfl) (by decide) E_b664 (own_bpi5 l Z a0 H x645 pt ar649 ((([] : List Int32) ++ os) ++ ([58] : List Int32)) d1 d2 h663 S737.old SB738 (by simp only [List.length_append, List.length_cons, List.length_nil, own_dig1, own_dig2, own_dig3, own_dig4, own_dig5]; omega) ga_x645 ga_ar649 DG hp) own_pd7d34f6 rfl rfl (hz _ rfl) (rest := []) rfl (W := 0) (Own.hw0 rfl rfl) (hb hby own_d34_67) (by decide) (by decide) (by decide) (by decide) (fun v739 vm739 T739 h739 S739 C739 q739 => ?_)
      obtain ⟨K739, rfl, SB739⟩ := q739
      have J739 : Own.Stp Z consts_1 vm663 h663 vm739 h739 [x645, ar649] := ⟨K739, C739⟩
      obtain ⟨E_b740, Fv_b740, Fc_b740, Fn_b740, A_r740⟩ := id SB739
      have SB741 : own_SB Z h739 x645 ar649 kv649 (((([] : List Int32) ++ os) ++ ([58] : List Int32)) ++ own_dig5 pt) := ⟨E_b740, Fv_b740, Fc_b740, Fn_b740, A_r740⟩
      show G T739 (mkF m 70 #[rv a, rv xs] [(.ref x645)])
      refine Own.Sit.callV hG S739 hx hEL (as := []) (hW 160 _ rfl) (hW 161 _ rfl) (hW 163 _ rfl) (hW 162 _ rfl) (hW 80 _ rfl) (hW 164 _ rfl) (by decide) E_b740 (own_tsb l Z a0 H x645 ar649 (((([] : List Int32) ++ os) ++ ([58] : List Int32)) ++ own_dig5 pt) h739 S739.old SB741 (own_ra (own_ra (own_ra own_rn hro) (by decide)) (own_rd5 ⟨by omega, by omega⟩)) (by simp only [List.length_append, List.length_cons, List.length_nil, own_dig1, own_dig2, own_dig3, own_dig4, own_dig5]; omega)) own_pdaf964f rfl rfl (hz _ rfl) (rest := []) rfl (W := 0) (Own.hw0 rfl rfl) (hb hby own_d34_70) (by decide) (by decide) (by decide) (by decide) (fun v742 vm742 T742 h742 S742 C742 q742 => ?_)
      obtain ⟨K742, x742, y742, rfl, St742, u742⟩ := q742
      have J742 : Own.Stp Z consts_1 vm739 h739 vm742 h742 [] := ⟨K742, C742⟩
      have J743 : Own.Stp Z consts_1 vm0 h0 vm739 h739 [] := Own.Stp.trans J735 J739 (all0) (allS (Or.inr (Nat.le_trans J730.1.1 (Nat.le_of_eq g_x645.symm))) (allS (Or.inr (Nat.le_trans J731.1.1 ur649)) all0))
      have J744 : Own.Stp Z consts_1 vm0 h0 vm742 h742 [] := Own.Stp.trans J743 J742 (all0) all0
      show G T742 (mkF m 73 #[rv a, rv xs] [(.ref x742)])
      exact Own.Sit.retO hR S742 hx hret rfl (Or.inr (Or.inr (Or.inr (Or.inr ⟨rfl, rfl, rfl⟩)))) (hb hby own_d34_73) (by decide) (by decide) ⟨J744.1, x742, _, rfl, (by rw [own_dE5 hp, ← ho]; exact St742), (Nat.le_trans J743.1.1 u742)⟩
  by_cases hc9 : r643 = (0 : Int32)
  ·
    refine hG.st (fun _ q => XS.ifYes S643.here hx rfl (pc0 := 9) (pc' := 42) rfl (hb hby own_d34_9) rfl ((if0 _ _).trans (teq hc9).1) (by decide) (by decide) (XS.aloadN S643.here hx rfl (hb hby own_d34_42) rfl rfl q)) ?_
    show G T643 (mkF m 43 #[rv a, .unset] [(.ref a)])
    have J745 : Own.Stp Z consts_1 vm0 h0 vm643 h643 [] := Own.Stp.trans J641 J643 (all0) all0
    have F746 := J745.fld F_h nin0
    refine Own.Sit.getF hG S643 hx (host := "") (Or.inl (hW 34 _ rfl)) Via.refl F746 rfl rfl (hb hby own_d34_43) (fun T747 S747 => ?_)
    have St748 := J643.str St642 nin0 nin0
    show G T747 (mkF m 46 #[rv a, .unset] [(.ref x)])
    exact JT vm643 T747 h643 x t cs (S747.mono (by decide) (by decide)) (Own.Stp.mono (Own.Stp.refl S747.ch) all0) St748 (own_hostN (own_c0 hq643 hc9))
  ·
    refine hG.st (fun _ q => XS.ifNo S643.here hx rfl (hb hby own_d34_9) rfl ((if0 _ _).trans (feq hc9).1) q) ?_
    show G T643 (mkF m 12 #[rv a, .unset] [])
    refine Own.Sit.newO hG S643 hx (hW 78 _ rfl) (hW 79 _ rfl) (hW 80 _ rfl) rfl (hb hby own_d34_12) (by decide) (by decide) (fun T749 h749 x749 g_x749 S749 J749 Sf749 E749 D749 => ?_)
    have lt_x749 := E749.lt
    have ga_x749 : Z.heap.size ≤ x749 := Nat.le_trans S643.le (Nat.le_of_eq g_x749.symm)
    have F750 : Fld Z h749 x749 "java/lang/AbstractStringBuilder" "value" "[B" .null := D749 (Or.inl (hW 93 _ rfl)) (ty := (.array .byte)) (by decide)
    have F751 : Fld Z h749 x749 "java/lang/AbstractStringBuilder" "coder" "B" (.int 0) := D749 (Or.inl (hW 95 _ rfl)) (ty := .byte) (by decide)
    have F752 : Fld Z h749 x749 "java/lang/AbstractStringBuilder" "count" "I" (.int 0) := D749 (Or.inl (hW 112 _ rfl)) (ty := .int) (by decide)
    refine hG.st (fun _ q => XS.dup S749.here hx rfl (hb hby own_d34_15) rfl rfl q) ?_
    show G T749 (mkF m 16 #[rv a, .unset] [(.ref x749), (.ref x749)])
    refine Own.Sit.callI hG S749 hx hEL rfl (as := []) (hW 81 _ rfl) (hW 82 _ rfl) (hW 80 _ rfl) (hW 83 _ rfl) (by decide) (own_bin l Z a0 H x749 h749 S749.old ga_x749 E749 F750 F751 F752) own_pd62febe rfl rfl (hz _ rfl) (rest := [(.ref x749)]) rfl (W := 1) (Own.hw0 rfl rfl) (hb hby own_d34_16) (by decide) (by decide) (by decide) (by decide) (fun v753 vm753 T753 h753 S753 C753 q753 => ?_)
    obtain ⟨K753, rfl, ar753, kv753, ur753, SB753⟩ := q753
    have J753 : Own.Stp Z consts_1 vm643 h749 vm753 h753 [x749] := ⟨K753, C753⟩
    obtain ⟨E_b754, Fv_b754, Fc_b754, Fn_b754, A_r754⟩ := id SB753
    have ga_ar753 : Z.heap.size ≤ ar753 := Nat.le_trans S749.le ur753
    show G T753 (mkF m 19 #[rv a, .unset] [(.ref x749)])
    refine Own.Sit.ldc hG S753 hx hEL (hW 235 _ rfl) hSA (by decide) (cs := ([91] : List Int32)) ⟨by decide, by decide⟩ (by decide) (by decide) rfl (hb hby own_d34_19) (nn := 4) (by decide) (by decide) (by decide) (by decide) (fun vm755 T755 h755 x755 y755 S755 J755 St755 L755 => ?_)
    have E756 := J755.exa E_b754
    have F757 := J755.fld Fv_b754 nin0
    have F758 := J755.fld Fc_b754 nin0
    have F759 := J755.fld Fn_b754 nin0
    have V760 := J755.arv A_r754 nin0
    have SB761 : own_SB Z h755 x749 ar753 kv753 ([] : List Int32) := ⟨E756, F757, F758, F759, V760⟩
    show G T755 (mkF m 21 #[rv a, .unset] [(.ref x755), (.ref x749)])
    refine Own.Sit.callV hG S755 hx hEL (as := [(.ref x755)]) (hW 96 _ rfl) (hW 97 _ rfl) (hW 99 _ rfl) (hW 98 _ rfl) (hW 80 _ rfl) (hW 100 _ rfl) (by decide) E756 (own_bps l Z a0 H x749 x755 ar753 ([] : List Int32) y755 ([91] : List Int32) h755 S755.old SB761 St755 (by simp only [List.length_append, List.length_cons, List.length_nil, own_dig1, own_dig2, own_dig3, own_dig4, own_dig5]; omega) ga_x749 ga_ar753) own_pd59ea1a rfl rfl (hz _ rfl) (rest := []) rfl (W := 0) (Own.hw0 rfl rfl) (hb hby own_d34_21) (by decide) (by decide) (by decide) (by decide) (fun v762 vm762 T762 h762 S762 C762 q762 => ?_)
    obtain ⟨K762, rfl, SB762⟩ := q762
    have J762 : Own.Stp Z consts_1 vm755 h755 vm762 h762 [x749, ar753] := ⟨K762, C762⟩
    obtain ⟨E_b763, Fv_b763, Fc_b763, Fn_b763, A_r763⟩ := id SB762
    refine hG.st (fun _ q => XS.aloadN S762.here hx rfl (hb hby own_d34_24) rfl rfl q) ?_
    show G T762 (mkF m 25 #[rv a, .unset] [(.ref a), (.ref x749)])
    have J764 : Own.Stp Z consts_1 vm0 h0 vm643 h643 [] := Own.Stp.trans J641 J643 (all0) all0
    have J765 : Own.Stp Z consts_1 vm0 h0 vm643 h749 [] := Own.Stp.trans J764 J749 (all0) all0
    have J766 : Own.Stp Z consts_1 vm0 h0 vm753 h753 [] := Own.Stp.trans J765 J753 (all0) (allS (Or.inr (Nat.le_trans J764.1.1 (Nat.le_of_eq g_x749.symm))) all0)
    have J767 : Own.Stp Z consts_1 vm0 h0 vm755 h755 [] := Own.Stp.trans J766 J755 (all0) all0
    have J768 : Own.Stp Z consts_1 vm0 h0 vm762 h762 [] := Own.Stp.trans J767 J762 (all0) (allS (Or.inr (Nat.le_trans J764.1.1 (Nat.le_of_eq g_x749.symm))) (allS (Or.inr (Nat.le_trans J765.1.1 ur753)) all0))
    have F769 := J768.fld F_h nin0
    refine Own.Sit.getF hG S762 hx (host := "") (Or.inl (hW 34 _ rfl)) Via.refl F769 rfl rfl (hb hby own_d34_25) (fun T770 S770 => ?_)
    have SB771 : own_SB Z h762 x749 ar753 kv753 (([] : List Int32) ++ ([91] : List Int32)) := ⟨E_b763, Fv_b763, Fc_b763, Fn_b763, A_r763⟩
    have J772 : Own.Stp Z consts_1 vm641 h641 vm643 h749 [] := Own.Stp.trans J643 J749 (all0) all0
    have J773 : Own.Stp Z consts_1 vm641 h641 vm753 h753 [] := Own.Stp.trans J772 J753 (all0) (allS (Or.inr (Nat.le_trans J643.1.1 (Nat.le_of_eq g_x749.symm))) all0)
    have J774 : Own.Stp Z consts_1 vm641 h641 vm755 h755 [] := Own.Stp.trans J773 J755 (all0) all0
    have J775 : Own.Stp Z consts_1 vm641 h641 vm762 h762 [] := Own.Stp.trans J774 J762 (all0) (allS (Or.inr (Nat.le_trans J643.1.1 (Nat.le_of_eq g_x749.symm))) (allS (Or.inr (Nat.le_trans J772.1.1 ur753)) all0))
    have St776 := J775.str St642 nin0 nin0
    show G T770 (mkF m 28 #[rv a, .unset] [(.ref x), (.ref x749)])
    refine Own.Sit.callV hG S770 hx hEL (as := [(.ref x)]) (hW 96 _ rfl) (hW 97 _ rfl) (hW 99 _ rfl) (hW 98 _ rfl) (hW 80 _ rfl) (hW 100 _ rfl) (by decide) E_b763 (own_bps l Z a0 H x749 x ar753 (([] : List Int32) ++ ([91] : List Int32)) t cs h762 S770.old SB771 St776 (by simp only [List.length_append, List.length_cons, List.length_nil, own_dig1, own_dig2, own_dig3, own_dig4, own_dig5]; omega) ga_x749 ga_ar753) own_pd59ea1a rfl rfl (hz _ rfl) (rest := []) rfl (W := 0) (Own.hw0 rfl rfl) (hb hby own_d34_28) (by decide) (by decide) (by decide) (by decide) (fun v777 vm777 T777 h777 S777 C777 q777 => ?_)
    obtain ⟨K777, rfl, SB777⟩ := q777
    have J777 : Own.Stp Z consts_1 vm762 h762 vm777 h777 [x749, ar753] := ⟨K777, C777⟩
    obtain ⟨E_b778, Fv_b778, Fc_b778, Fn_b778, A_r778⟩ := id SB777
    show G T777 (mkF m 31 #[rv a, .unset] [(.ref x749)])
    refine Own.Sit.ldc hG S777 hx hEL (hW 236 _ rfl) hSA (by decide) (cs := ([93] : List Int32)) ⟨by decide, by decide⟩ (by decide) (by decide) rfl (hb hby own_d34_31) (nn := 4) (by decide) (by decide) (by decide) (by decide) (fun vm779 T779 h779 x779 y779 S779 J779 St779 L779 => ?_)
    have E780 := J779.exa E_b778
    have F781 := J779.fld Fv_b778 nin0
    have F782 := J779.fld Fc_b778 nin0
    have F783 := J779.fld Fn_b778 nin0
    have V784 := J779.arv A_r778 nin0
    have SB785 : own_SB Z h779 x749 ar753 kv753 ((([] : List Int32) ++ ([91] : List Int32)) ++ cs) := ⟨E780, F781, F782, F783, V784⟩
    show G T779 (mkF m 33 #[rv a, .unset] [(.ref x779), (.ref x749)])
    refine Own.Sit.callV hG S779 hx hEL (as := [(.ref x779)]) (hW 96 _ rfl) (hW 97 _ rfl) (hW 99 _ rfl) (hW 98 _ rfl) (hW 80 _ rfl) (hW 100 _ rfl) (by decide) E780 (own_bps l Z a0 H x749 x779 ar753 ((([] : List Int32) ++ ([91] : List Int32)) ++ cs) y779 ([93] : List Int32) h779 S779.old SB785 St779 (by simp only [List.length_append, List.length_cons, List.length_nil, own_dig1, own_dig2, own_dig3, own_dig4, own_dig5]; omega) ga_x749 ga_ar753) own_pd59ea1a rfl rfl (hz _ rfl) (rest := []) rfl (W := 0) (Own.hw0 rfl rfl) (hb hby own_d34_33) (by decide) (by decide) (by decide) (by decide) (fun v786 vm786 T786 h786 S786 C786 q786 => ?_)
    obtain ⟨K786, rfl, SB786⟩ := q786
    have J786 : Own.Stp Z consts_1 vm779 h779 vm786 h786 [x749, ar753] := ⟨K786, C786⟩
    obtain ⟨E_b787, Fv_b787, Fc_b787, Fn_b787, A_r787⟩ := id SB786
    have SB788 : own_SB Z h786 x749 ar753 kv753 (((([] : List Int32) ++ ([91] : List Int32)) ++ cs) ++ ([93] : List Int32)) := ⟨E_b787, Fv_b787, Fc_b787, Fn_b787, A_r787⟩
    show G T786 (mkF m 36 #[rv a, .unset] [(.ref x749)])
    refine Own.Sit.callV hG S786 hx hEL (as := []) (hW 160 _ rfl) (hW 161 _ rfl) (hW 163 _ rfl) (hW 162 _ rfl) (hW 80 _ rfl) (hW 164 _ rfl) (by decide) E_b787 (own_tsb l Z a0 H x749 ar753 (((([] : List Int32) ++ ([91] : List Int32)) ++ cs) ++ ([93] : List Int32)) h786 S786.old SB788 (own_ra (own_ra (own_ra own_rn (by decide)) hr) (by decide)) (by simp only [List.length_append, List.length_cons, List.length_nil, own_dig1, own_dig2, own_dig3, own_dig4, own_dig5]; omega)) own_pdaf964f rfl rfl (hz _ rfl) (rest := []) rfl (W := 0) (Own.hw0 rfl rfl) (hb hby own_d34_36) (by decide) (by decide) (by decide) (by decide) (fun v789 vm789 T789 h789 S789 C789 q789 => ?_)
    obtain ⟨K789, x789, y789, rfl, St789, u789⟩ := q789
    have J789 : Own.Stp Z consts_1 vm786 h786 vm789 h789 [] := ⟨K789, C789⟩
    refine hG.st (fun _ q => XS.goto S789.here hx rfl (pc0 := 39) (pc' := 46) rfl (hb hby own_d34_39) (by decide) (by decide) q) ?_
    show G T789 (mkF m 46 #[rv a, .unset] [(.ref x789)])
    have J790 : Own.Stp Z consts_1 vm643 h643 vm753 h753 [] := Own.Stp.trans J749 J753 (all0) (allS (Or.inr (Nat.le_of_eq g_x749.symm)) all0)
    have J791 : Own.Stp Z consts_1 vm643 h643 vm755 h755 [] := Own.Stp.trans J790 J755 (all0) all0
    have J792 : Own.Stp Z consts_1 vm643 h643 vm762 h762 [] := Own.Stp.trans J791 J762 (all0) (allS (Or.inr (Nat.le_of_eq g_x749.symm)) (allS (Or.inr (Nat.le_trans J749.1.1 ur753)) all0))
    have J793 : Own.Stp Z consts_1 vm643 h643 vm777 h777 [] := Own.Stp.trans J792 J777 (all0) (allS (Or.inr (Nat.le_of_eq g_x749.symm)) (allS (Or.inr (Nat.le_trans J749.1.1 ur753)) all0))
    have J794 : Own.Stp Z consts_1 vm643 h643 vm779 h779 [] := Own.Stp.trans J793 J779 (all0) all0
    have J795 : Own.Stp Z consts_1 vm643 h643 vm786 h786 [] := Own.Stp.trans J794 J786 (all0) (allS (Or.inr (Nat.le_of_eq g_x749.symm)) (allS (Or.inr (Nat.le_trans J749.1.1 ur753)) all0))
    have J796 : Own.Stp Z consts_1 vm643 h643 vm789 h789 [] := Own.Stp.trans J795 J789 (all0) all0
    exact JT vm789 T789 h789 x789 y789 (((([] : List Int32) ++ ([91] : List Int32)) ++ cs) ++ ([93] : List Int32)) (S789.mono (by decide) (by decide)) J796 St789 (own_hostY (own_c1 hq643 hc9))
theorem own_pn4e3c04 : plainFor (⟨"jdk/internal/util/Preconditions", "checkIndex", "(IILjava/util/function/BiFunction;)I"⟩ : MethodName) = true := by first | exact plainFor_of_name (by first | (simp [plainName, overriddenIn]; done) | decide +kernel) | decide +kernel
theorem own_d35_0 : decode jdk_41_method_11_code 0 = .ok (.iload_n 0, 1) := by decide +kernel
theorem own_d35_1 : decode jdk_41_method_11_code 1 = .ok (.ifCond .lt 8, 3) := by decide +kernel
theorem own_d35_4 : decode jdk_41_method_11_code 4 = .ok (.iload_n 0, 1) := by decide +kernel
theorem own_d35_5 : decode jdk_41_method_11_code 5 = .ok (.iload_n 1, 1) := by decide +kernel
theorem own_d35_6 : decode jdk_41_method_11_code 6 = .ok (.if_icmp .lt 10, 3) := by decide +kernel
theorem own_d35_16 : decode jdk_41_method_11_code 16 = .ok (.iload_n 0, 1) := by decide +kernel
theorem own_d35_17 : decode jdk_41_method_11_code 17 = .ok (.ireturn, 1) := by decide +kernel
theorem own_ef_own_pci (m : MethodId) (j : Int32) (z : Int32) (fv : Value) (h_fv : fv.isRef = true) : entryFrame m #[(.int j), (.int z), fv] 3 = mkF m 0 #[iv j, iv z, .val fv] [] := by
  all_goals rcases ref_cases h_fv with rfl | ⟨_, rfl⟩
  all_goals first | (simp [entryFrame, mkF, argsToLocals, Value.category]; done) | rfl
set_option maxRecDepth 65536 in
set_option maxHeartbeats 40000000 in
theorem own_pci (l : Launch) (Z : State) (a0 : Array Value) (H : own_Wld Z a0) {cw : List Jvm.Cond} (j : Int32) (z : Int32) (fv : Value) (h0 : Heap) (O0 : Ext Z.heap h0) (hj : ¬ j < 0 ∧ j < z) (hfv : fv.isRef = true) :
    Own.Con l Z consts_1 (⟨"jdk/internal/util/Preconditions", "checkIndex", "(IILjava/util/function/BiFunction;)I"⟩ : MethodName) jdk_41_method_11_code 3 (some .int) cw ({ frames := 0, cells := 0, slots := 0, locals := 0 } : Room) #[(.int j), (.int z), fv] h0 (fun v h => Keep h0 h [] ∧ v = some (.int j)) := by
  have hw := H.1
  have hW := fun (i : Nat) (w : Jvm.Cond) (e : tables_1[i]? = some w) => hw w (List.mem_of_getElem? e)
  have hCm := H.2.1
  have hSi := H.2.2.1
  have hEL := H.2.2.2
  have hWs : ∀ d ∈ StrChars.Road.words, d.before a0 Z = true := fun d hd => hw d (own_wbackV d hd)
  have hWl : ∀ d ∈ StrChars.Road.wordsLen, d.before a0 Z = true := fun d hd => hw d (own_wlenW d hd)
  have hSA : ∀ d ∈ Bundle.stringAtoms, d.before a0 Z = true := fun d hd => hw d (own_wSA d hd)
  refine Own.Con.of own_pn4e3c04 hEL O0 ?_
  intro p e s m below meth c T0 G vm0 hx hby hml hret hnm hG hR S0
  have hz : ∀ L : Array Slot, L.size = 3 → L.size = c.maxLocals := fun L q => q.trans hml.symm
  rw [own_ef_own_pci _ _ _ _ hfv]
  show G T0 (mkF m 0 #[iv j, iv z, .val fv] [])
  refine hG.st (fun _ q => XS.iloadN S0.here hx rfl (hb hby own_d35_0) rfl (XS.ifNo S0.here hx rfl (hb hby own_d35_1) rfl ((if0 _ _).trans (flt (hj.1 : ¬ (j < (0 : Int32)))).1) (XS.iloadN S0.here hx rfl (hb hby own_d35_4) rfl (XS.iloadN S0.here hx rfl (hb hby own_d35_5) rfl (XS.icmpYes S0.here hx rfl (pc0 := 6) (pc' := 16) rfl (hb hby own_d35_6) rfl (tlt (hj.2 : j < z)).1 (by decide) (by decide) (XS.iloadN S0.here hx rfl (hb hby own_d35_16) rfl q)))))) ?_
  show G T0 (mkF m 17 #[iv j, iv z, .val fv] [(.int j)])
  exact Own.Sit.retO hR S0 hx hret rfl (Or.inl ⟨rfl, Or.inl rfl, _, rfl⟩) (hb hby own_d35_17) (by decide) (by decide) ⟨(Keep.refl _ _), rfl⟩
theorem own_pna38930 : plainFor (⟨"java/lang/String", "checkIndex", "(II)V"⟩ : MethodName) = true := by first | exact plainFor_of_name (by first | (simp [plainName, overriddenIn]; done) | decide +kernel) | decide +kernel
theorem own_pdcf8029 : parseMethodDescriptor "(IILjava/util/function/BiFunction;)I" = some ⟨[.int, .int, (.object "java/util/function/BiFunction")], some .int⟩ := by decide +kernel
theorem own_d36_0 : decode jdk_42_method_155_code 0 = .ok (.iload_n 0, 1) := by decide +kernel
theorem own_d36_1 : decode jdk_42_method_155_code 1 = .ok (.iload_n 1, 1) := by decide +kernel
theorem own_d36_2 : decode jdk_42_method_155_code 2 = .ok (.getstatic 1053, 3) := by decide +kernel
theorem own_d36_5 : decode jdk_42_method_155_code 5 = .ok (.invokestatic 1059, 3) := by decide +kernel
theorem own_d36_8 : decode jdk_42_method_155_code 8 = .ok (.pop, 1) := by decide +kernel
theorem own_d36_9 : decode jdk_42_method_155_code 9 = .ok (.return_, 1) := by decide +kernel
theorem own_ef_own_sci (m : MethodId) (j : Int32) (z : Int32) : entryFrame m #[(.int j), (.int z)] 2 = mkF m 0 #[iv j, iv z] [] := by first | (simp [entryFrame, mkF, argsToLocals, Value.category]; done) | rfl
set_option maxRecDepth 65536 in
set_option maxHeartbeats 40000000 in
theorem own_sci (l : Launch) (Z : State) (a0 : Array Value) (H : own_Wld Z a0) {cw : List Jvm.Cond} (j : Int32) (z : Int32) (h0 : Heap) (O0 : Ext Z.heap h0) (hj : ¬ j < 0 ∧ j < z) :
    Own.Con l Z consts_1 (⟨"java/lang/String", "checkIndex", "(II)V"⟩ : MethodName) jdk_42_method_155_code 2 none cw ({ frames := 1, cells := 0, slots := 0, locals := 14 } : Room) #[(.int j), (.int z)] h0 (fun v h => Keep h0 h [] ∧ v = none) := by
  have hw := H.1
  have hW := fun (i : Nat) (w : Jvm.Cond) (e : tables_1[i]? = some w) => hw w (List.mem_of_getElem? e)
  have hCm := H.2.1
  have hSi := H.2.2.1
  have hEL := H.2.2.2
  have hWs : ∀ d ∈ StrChars.Road.words, d.before a0 Z = true := fun d hd => hw d (own_wbackV d hd)
  have hWl : ∀ d ∈ StrChars.Road.wordsLen, d.before a0 Z = true := fun d hd => hw d (own_wlenW d hd)
  have hSA : ∀ d ∈ Bundle.stringAtoms, d.before a0 Z = true := fun d hd => hw d (own_wSA d hd)
  refine Own.Con.of own_pna38930 hEL O0 ?_
  intro p e s m below meth c T0 G vm0 hx hby hml hret hnm hG hR S0
  have hz : ∀ L : Array Slot, L.size = 2 → L.size = c.maxLocals := fun L q => q.trans hml.symm
  rw [own_ef_own_sci]
  show G T0 (mkF m 0 #[iv j, iv z] [])
  obtain ⟨fm, Sfm, hfm⟩ := id hSi
  refine hG.st (fun _ q => XS.iloadN S0.here hx rfl (hb hby own_d36_0) rfl (XS.iloadN S0.here hx rfl (hb hby own_d36_1) rfl q)) ?_
  show G T0 (mkF m 2 #[iv j, iv z] [(.int z), (.int j)])
  refine Own.Sit.getS hG S0 hx (host := "") (Or.inl (hW 216 _ rfl)) Via.refl (Sfm.ext S0.old) rfl (hb hby own_d36_2) (fun T797 S797 => ?_)
  show G T797 (mkF m 5 #[iv j, iv z] [fm, (.int z), (.int j)])
  refine Own.Sit.callS hG S797 hx hEL (as := [(.int j), (.int z), fm]) (hW 218 _ rfl) (hW 219 _ rfl) (hW 217 _ rfl) (hW 220 _ rfl) (by decide) (own_pci l Z a0 H j z fm h0 S797.old hj hfm) own_pdcf8029 rfl rfl (hz _ rfl) (rest := []) rfl (W := 0) (Own.hw0 rfl rfl) (hb hby own_d36_5) (by decide) (by decide) (by decide) (by decide) (fun v798 vm798 T798 h798 S798 C798 q798 => ?_)
  obtain ⟨K798, rfl⟩ := q798
  have J798 : Own.Stp Z consts_1 vm0 h0 vm798 h798 [] := ⟨K798, C798⟩
  refine hG.st (fun _ q => XS.pop S798.here hx rfl (hb hby own_d36_8) rfl rfl q) ?_
  show G T798 (mkF m 9 #[iv j, iv z] [])
  exact Own.Sit.ret0 hR S798 hx hret (hb hby own_d36_9) (by decide) (by decide) ⟨J798.1, rfl⟩
theorem own_pn4ec4bc : plainFor (⟨"java/lang/StringLatin1", "charAt", "([BI)C"⟩ : MethodName) = true := by first | exact plainFor_of_name (by first | (simp [plainName, overriddenIn]; done) | decide +kernel) | decide +kernel
theorem own_d37_0 : decode jdk_43_method_2_code 0 = .ok (.iload_n 1, 1) := by decide +kernel
theorem own_d37_1 : decode jdk_43_method_2_code 1 = .ok (.aload_n 0, 1) := by decide +kernel
theorem own_d37_2 : decode jdk_43_method_2_code 2 = .ok (.arraylength, 1) := by decide +kernel
theorem own_d37_3 : decode jdk_43_method_2_code 3 = .ok (.invokestatic 9, 3) := by decide +kernel
theorem own_d37_6 : decode jdk_43_method_2_code 6 = .ok (.aload_n 0, 1) := by decide +kernel
theorem own_d37_7 : decode jdk_43_method_2_code 7 = .ok (.iload_n 1, 1) := by decide +kernel
theorem own_d37_8 : decode jdk_43_method_2_code 8 = .ok (.baload, 1) := by decide +kernel
theorem own_d37_9 : decode jdk_43_method_2_code 9 = .ok (.sipush 255, 3) := by decide +kernel
theorem own_d37_12 : decode jdk_43_method_2_code 12 = .ok (.iand, 1) := by decide +kernel
theorem own_d37_13 : decode jdk_43_method_2_code 13 = .ok (.i2c, 1) := by decide +kernel
theorem own_d37_14 : decode jdk_43_method_2_code 14 = .ok (.ireturn, 1) := by decide +kernel
theorem own_ef_own_lca (m : MethodId) (t : Addr) (j : Int32) : entryFrame m #[(.ref t), (.int j)] 2 = mkF m 0 #[rv t, iv j] [] := by first | (simp [entryFrame, mkF, argsToLocals, Value.category]; done) | rfl
set_option maxRecDepth 65536 in
set_option maxHeartbeats 40000000 in
theorem own_lca (l : Launch) (Z : State) (a0 : Array Value) (H : own_Wld Z a0) {cw : List Jvm.Cond} (t : Addr) (j : Int32) (cs : List Int32) (h0 : Heap) (O0 : Ext Z.heap h0) {kt : ClassId} (A_t : Arv Z h0 t kt .byte (Int32.ofNat cs.length) (own_bv cs) (.int 0)) (hj : ¬ j < 0 ∧ j < Int32.ofNat cs.length) (hr : ∀ c ∈ cs, ¬ c < 0 ∧ ¬ (255 : Int32) < c) :
    Own.Con l Z consts_1 (⟨"java/lang/StringLatin1", "charAt", "([BI)C"⟩ : MethodName) jdk_43_method_2_code 2 (some .char) cw ({ frames := 2, cells := 0, slots := 0, locals := 27 } : Room) #[(.ref t), (.int j)] h0 (fun v h => Keep h0 h [] ∧ v = some (.int (cs.getD j.toNatClampNeg 0))) := by
  have hw := H.1
  have hW := fun (i : Nat) (w : Jvm.Cond) (e : tables_1[i]? = some w) => hw w (List.mem_of_getElem? e)
  have hCm := H.2.1
  have hSi := H.2.2.1
  have hEL := H.2.2.2
  have hWs : ∀ d ∈ StrChars.Road.words, d.before a0 Z = true := fun d hd => hw d (own_wbackV d hd)
  have hWl : ∀ d ∈ StrChars.Road.wordsLen, d.before a0 Z = true := fun d hd => hw d (own_wlenW d hd)
  have hSA : ∀ d ∈ Bundle.stringAtoms, d.before a0 Z = true := fun d hd => hw d (own_wSA d hd)
  refine Own.Con.of own_pn4ec4bc hEL O0 ?_
  intro p e s m below meth c T0 G vm0 hx hby hml hret hnm hG hR S0
  have hz : ∀ L : Array Slot, L.size = 2 → L.size = c.maxLocals := fun L q => q.trans hml.symm
  rw [own_ef_own_lca]
  show G T0 (mkF m 0 #[rv t, iv j] [])
  refine hG.st (fun _ q => XS.iloadN S0.here hx rfl (hb hby own_d37_0) rfl (XS.aloadN S0.here hx rfl (hb hby own_d37_1) rfl rfl q)) ?_
  show G T0 (mkF m 2 #[rv t, iv j] [(.ref t), (.int j)])
  refine Own.Sit.arraylength hG S0 hx A_t rfl rfl (hb hby own_d37_2) ?_
  show G T0 (mkF m 3 #[rv t, iv j] [(.int (Int32.ofNat cs.length)), (.int j)])
  refine Own.Sit.callS hG S0 hx hEL (as := [(.int j), (.int (Int32.ofNat cs.length))]) (hW 213 _ rfl) (hW 214 _ rfl) (hW 7 _ rfl) (hW 215 _ rfl) (by decide) (own_sci l Z a0 H j (Int32.ofNat cs.length) h0 S0.old hj) own_pd4d0c4d rfl rfl (hz _ rfl) (rest := []) rfl (W := 0) (Own.hw0 rfl rfl) (hb hby own_d37_3) (by decide) (by decide) (by decide) (by decide) (fun v799 vm799 T799 h799 S799 C799 q799 => ?_)
  obtain ⟨K799, rfl⟩ := q799
  have J799 : Own.Stp Z consts_1 vm0 h0 vm799 h799 [] := ⟨K799, C799⟩
  refine hG.st (fun _ q => XS.aloadN S799.here hx rfl (hb hby own_d37_6) rfl rfl (XS.iloadN S799.here hx rfl (hb hby own_d37_7) rfl q)) ?_
  show G T799 (mkF m 8 #[rv t, iv j] [(.int j), (.ref t)])
  have V800 := J799.arv A_t nin0
  refine Own.Sit.baload hG S799 hx V800 hj (own_bvat cs _) rfl rfl (hb hby own_d37_8) ?_
  show G T799 (mkF m 9 #[rv t, iv j] [(.int ((cs.getD j.toNatClampNeg 0).toInt8.toInt32))])
  refine hG.st (fun _ q => XS.sipush S799.here hx rfl (hb hby own_d37_9) (XS.iand S799.here hx rfl (hb hby own_d37_12) rfl (XS.i2c S799.here hx rfl (hb hby own_d37_13) rfl q))) ?_
  show G T799 (mkF m 14 #[rv t, iv j] [(.int ((((cs.getD j.toNatClampNeg 0).toInt8.toInt32) &&& (255 : Int32)).toUInt32.toUInt16.toUInt32.toInt32))])
  exact Own.Sit.retN hR S799 hx (t := .char) hret (by simp) (hb hby own_d37_14) (by decide) (by decide) ⟨J799.1, congrArg (fun z => some (Value.int z)) (own_ca (own_rg hr _))⟩
theorem own_pnd31840 : plainFor (⟨"java/lang/String", "charAt", "(I)C"⟩ : MethodName) = true := by first | exact plainFor_of_name (by first | (simp [plainName, overriddenIn]; done) | decide +kernel) | decide +kernel
theorem own_pdd05754 : parseMethodDescriptor "([BI)C" = some ⟨[(.array .byte), .int], some .char⟩ := by decide +kernel
theorem own_d38_0 : decode jdk_42_method_56_code 0 = .ok (.aload_n 0, 1) := by decide +kernel
theorem own_d38_1 : decode jdk_42_method_56_code 1 = .ok (.invokevirtual 492, 3) := by decide +kernel
theorem own_d38_4 : decode jdk_42_method_56_code 4 = .ok (.ifCond .eq 12, 3) := by decide +kernel
theorem own_d38_7 : decode jdk_42_method_56_code 7 = .ok (.aload_n 0, 1) := by decide +kernel
theorem own_d38_8 : decode jdk_42_method_56_code 8 = .ok (.getfield 9, 3) := by decide +kernel
theorem own_d38_11 : decode jdk_42_method_56_code 11 = .ok (.iload_n 1, 1) := by decide +kernel
theorem own_d38_12 : decode jdk_42_method_56_code 12 = .ok (.invokestatic 495, 3) := by decide +kernel
theorem own_d38_15 : decode jdk_42_method_56_code 15 = .ok (.ireturn, 1) := by decide +kernel
theorem own_ef_own_cha (m : MethodId) (x : Addr) (j : Int32) : entryFrame m #[(.ref x), (.int j)] 2 = mkF m 0 #[rv x, iv j] [] := by first | (simp [entryFrame, mkF, argsToLocals, Value.category]; done) | rfl
set_option maxRecDepth 65536 in
set_option maxHeartbeats 40000000 in
theorem own_cha (l : Launch) (Z : State) (a0 : Array Value) (H : own_Wld Z a0) {cw : List Jvm.Cond} (x : Addr) (j : Int32) (t : Addr) (cs : List Int32) (h0 : Heap) (O0 : Ext Z.heap h0) (St_x : Own.Str Z h0 x t cs) (hj : ¬ j < 0 ∧ j < Int32.ofNat cs.length) :
    Own.Con l Z consts_1 (⟨"java/lang/String", "charAt", "(I)C"⟩ : MethodName) jdk_42_method_56_code 2 (some .char) cw ({ frames := 3, cells := 0, slots := 0, locals := 40 } : Room) #[(.ref x), (.int j)] h0 (fun v h => Keep h0 h [] ∧ v = some (.int (cs.getD j.toNatClampNeg 0))) := by
  have hw := H.1
  have hW := fun (i : Nat) (w : Jvm.Cond) (e : tables_1[i]? = some w) => hw w (List.mem_of_getElem? e)
  have hCm := H.2.1
  have hSi := H.2.2.1
  have hEL := H.2.2.2
  have hWs : ∀ d ∈ StrChars.Road.words, d.before a0 Z = true := fun d hd => hw d (own_wbackV d hd)
  have hWl : ∀ d ∈ StrChars.Road.wordsLen, d.before a0 Z = true := fun d hd => hw d (own_wlenW d hd)
  have hSA : ∀ d ∈ Bundle.stringAtoms, d.before a0 Z = true := fun d hd => hw d (own_wSA d hd)
  refine Own.Con.of own_pnd31840 hEL O0 ?_
  intro p e s m below meth c T0 G vm0 hx hby hml hret hnm hG hR S0
  have hz : ∀ L : Array Slot, L.size = 2 → L.size = c.maxLocals := fun L q => q.trans hml.symm
  rw [own_ef_own_cha]
  show G T0 (mkF m 0 #[rv x, iv j] [])
  obtain ⟨kb_x, E_x, Fv_x, Fc_x, A_t, hr_x, hl_x⟩ := id St_x
  refine hG.st (fun _ q => XS.aloadN S0.here hx rfl (hb hby own_d38_0) rfl rfl q) ?_
  show G T0 (mkF m 1 #[rv x, iv j] [(.ref x)])
  refine Own.Sit.callV hG S0 hx hEL (as := []) (hW 69 _ rfl) (hW 70 _ rfl) (hW 72 _ rfl) (hW 71 _ rfl) (hW 7 _ rfl) (hW 73 _ rfl) (by decide) E_x (own_lat l Z a0 H x t cs h0 S0.old St_x) own_pdbfe1a5 rfl rfl (hz _ rfl) (rest := []) rfl (W := 0) (Own.hw0 rfl rfl) (hb hby own_d38_1) (by decide) (by decide) (by decide) (by decide) (fun v801 vm801 T801 h801 S801 C801 q801 => ?_)
  obtain ⟨K801, rfl⟩ := q801
  have J801 : Own.Stp Z consts_1 vm0 h0 vm801 h801 [] := ⟨K801, C801⟩
  refine hG.st (fun _ q => XS.ifNo S801.here hx rfl (hb hby own_d38_4) rfl ((if0 _ _).trans (feq (by decide : ¬ ((1 : Int32) = (0 : Int32)))).1) (XS.aloadN S801.here hx rfl (hb hby own_d38_7) rfl rfl q)) ?_
  show G T801 (mkF m 8 #[rv x, iv j] [(.ref x)])
  have F802 := J801.fld Fv_x nin0
  refine Own.Sit.getF hG S801 hx (host := "") (Or.inl (hW 25 _ rfl)) Via.refl F802 rfl rfl (hb hby own_d38_8) (fun T803 S803 => ?_)
  refine hG.st (fun _ q => XS.iloadN S803.here hx rfl (hb hby own_d38_11) rfl q) ?_
  show G T803 (mkF m 12 #[rv x, iv j] [(.int j), (.ref t)])
  have V804 := J801.arv A_t nin0
  refine Own.Sit.callS hG S803 hx hEL (as := [(.ref t), (.int j)]) (hW 210 _ rfl) (hW 211 _ rfl) (hW 76 _ rfl) (hW 212 _ rfl) (by decide) (own_lca l Z a0 H t j cs h801 S803.old V804 hj hr_x) own_pdd05754 rfl rfl (hz _ rfl) (rest := []) rfl (W := 0) (Own.hw0 rfl rfl) (hb hby own_d38_12) (by decide) (by decide) (by decide) (by decide) (fun v805 vm805 T805 h805 S805 C805 q805 => ?_)
  obtain ⟨K805, rfl⟩ := q805
  have J805 : Own.Stp Z consts_1 vm801 h801 vm805 h805 [] := ⟨K805, C805⟩
  have J806 : Own.Stp Z consts_1 vm0 h0 vm805 h805 [] := Own.Stp.trans J801 J805 (all0) all0
  show G T805 (mkF m 15 #[rv x, iv j] [(.int (cs.getD j.toNatClampNeg 0))])
  exact Own.Sit.retN hR S805 hx (t := .char) hret (by simp) (hb hby own_d38_15) (by decide) (by decide) ⟨J806.1, congrArg (fun z => some (Value.int z)) (own_narC (own_rg hr_x _))⟩
theorem own_pn1fb408 : plainFor (⟨"com/example/latchkey/latchkey/ListenAddressToStringPinLaw", "at", "(Ljava/lang/String;[CII)Z"⟩ : MethodName) = true := by first | exact plainFor_of_name (by first | (simp [plainName, overriddenIn]; done) | decide +kernel) | decide +kernel
theorem own_pd32dd48 : parseMethodDescriptor "(I)C" = some ⟨[.int], some .char⟩ := by decide +kernel
theorem own_d39_0 : decode method_3_code 0 = .ok (.iload_n 3, 1) := by decide +kernel
theorem own_d39_1 : decode method_3_code 1 = .ok (.iload_n 2, 1) := by decide +kernel
theorem own_d39_2 : decode method_3_code 2 = .ok (.if_icmp .ge 14, 3) := by decide +kernel
theorem own_d39_5 : decode method_3_code 5 = .ok (.aload_n 0, 1) := by decide +kernel
theorem own_d39_6 : decode method_3_code 6 = .ok (.iload_n 3, 1) := by decide +kernel
theorem own_d39_7 : decode method_3_code 7 = .ok (.invokevirtual 33, 3) := by decide +kernel
theorem own_d39_10 : decode method_3_code 10 = .ok (.aload_n 1, 1) := by decide +kernel
theorem own_d39_11 : decode method_3_code 11 = .ok (.iload_n 3, 1) := by decide +kernel
theorem own_d39_12 : decode method_3_code 12 = .ok (.caload, 1) := by decide +kernel
theorem own_d39_13 : decode method_3_code 13 = .ok (.if_icmp .ne 7, 3) := by decide +kernel
theorem own_d39_16 : decode method_3_code 16 = .ok (.iconst 1, 1) := by decide +kernel
theorem own_d39_17 : decode method_3_code 17 = .ok (.goto 4, 3) := by decide +kernel
theorem own_d39_21 : decode method_3_code 21 = .ok (.ireturn, 1) := by decide +kernel
theorem own_ef_own_at (m : MethodId) (cs : List Int32) (x : Addr) (ca : Addr) (kk : Int32) : entryFrame m #[(.ref x), (.ref ca), (.int (Int32.ofNat cs.length)), (.int kk)] 4 = mkF m 0 #[rv x, rv ca, iv (Int32.ofNat cs.length), iv kk] [] := by first | (simp [entryFrame, mkF, argsToLocals, Value.category]; done) | rfl
set_option maxRecDepth 65536 in
set_option maxHeartbeats 40000000 in
theorem own_at (l : Launch) (Z : State) (a0 : Array Value) (H : own_Wld Z a0) {cw : List Jvm.Cond} (x : Addr) (ca : Addr) (kk : Int32) (t : Addr) (cs : List Int32) (es : List Int32) (h0 : Heap) (O0 : Ext Z.heap h0) (St_x : Own.Str Z h0 x t cs) {kc : ClassId} {dv : Value} (A_c : Arv Z h0 ca kc .char (11 : Int32) (es.map Value.int) dv) (hes : es.length = 11) (hcl : cs.length ≤ 11) (heq : es.take cs.length = cs) (hk : ¬ kk < 0 ∧ kk < 11) :
    Own.Con l Z consts_1 (⟨"com/example/latchkey/latchkey/ListenAddressToStringPinLaw", "at", "(Ljava/lang/String;[CII)Z"⟩ : MethodName) method_3_code 4 (some .boolean) cw ({ frames := 4, cells := 0, slots := 0, locals := 53 } : Room) #[(.ref x), (.ref ca), (.int (Int32.ofNat cs.length)), (.int kk)] h0 (fun v h => Keep h0 h [] ∧ v = some (.int 1)) := by
  have hw := H.1
  have hW := fun (i : Nat) (w : Jvm.Cond) (e : tables_1[i]? = some w) => hw w (List.mem_of_getElem? e)
  have hCm := H.2.1
  have hSi := H.2.2.1
  have hEL := H.2.2.2
  have hWs : ∀ d ∈ StrChars.Road.words, d.before a0 Z = true := fun d hd => hw d (own_wbackV d hd)
  have hWl : ∀ d ∈ StrChars.Road.wordsLen, d.before a0 Z = true := fun d hd => hw d (own_wlenW d hd)
  have hSA : ∀ d ∈ Bundle.stringAtoms, d.before a0 Z = true := fun d hd => hw d (own_wSA d hd)
  refine Own.Con.of own_pn1fb408 hEL O0 ?_
  intro p e s m below meth c T0 G vm0 hx hby hml hret hnm hG hR S0
  have hz : ∀ L : Array Slot, L.size = 4 → L.size = c.maxLocals := fun L q => q.trans hml.symm
  rw [own_ef_own_at]
  show G T0 (mkF m 0 #[rv x, rv ca, iv (Int32.ofNat cs.length), iv kk] [])
  refine hG.st (fun _ q => XS.iloadN S0.here hx rfl (hb hby own_d39_0) rfl (XS.iloadN S0.here hx rfl (hb hby own_d39_1) rfl q)) ?_
  show G T0 (mkF m 2 #[rv x, rv ca, iv (Int32.ofNat cs.length), iv kk] [(.int (Int32.ofNat cs.length)), (.int kk)])
  by_cases hc2 : kk < (Int32.ofNat cs.length)
  ·
    refine hG.st (fun _ q => XS.icmpNo S0.here hx rfl (hb hby own_d39_2) rfl (tlt hc2).2.1 (XS.aloadN S0.here hx rfl (hb hby own_d39_5) rfl rfl (XS.iloadN S0.here hx rfl (hb hby own_d39_6) rfl q))) ?_
    show G T0 (mkF m 7 #[rv x, rv ca, iv (Int32.ofNat cs.length), iv kk] [(.int kk), (.ref x)])
    refine Own.Sit.callV hG S0 hx hEL (as := [(.int kk)]) (hW 205 _ rfl) (hW 206 _ rfl) (hW 208 _ rfl) (hW 207 _ rfl) (hW 7 _ rfl) (hW 209 _ rfl) (by decide) St_x.exa (own_cha l Z a0 H x kk t cs h0 S0.old St_x ⟨hk.1, hc2⟩) own_pd32dd48 rfl rfl (hz _ rfl) (rest := []) rfl (W := 0) (Own.hw0 rfl rfl) (hb hby own_d39_7) (by decide) (by decide) (by decide) (by decide) (fun v807 vm807 T807 h807 S807 C807 q807 => ?_)
    obtain ⟨K807, rfl⟩ := q807
    have J807 : Own.Stp Z consts_1 vm0 h0 vm807 h807 [] := ⟨K807, C807⟩
    refine hG.st (fun _ q => XS.aloadN S807.here hx rfl (hb hby own_d39_10) rfl rfl (XS.iloadN S807.here hx rfl (hb hby own_d39_11) rfl q)) ?_
    show G T807 (mkF m 12 #[rv x, rv ca, iv (Int32.ofNat cs.length), iv kk] [(.int kk), (.ref ca), (.int (cs.getD kk.toNatClampNeg 0))])
    have V808 := J807.arv A_c nin0
    have hkn := own_ltn (n := cs.length) (by omega) hk.1 hc2
    refine Own.Sit.caload hG S807 hx V808 hk (own_emat (by omega)) rfl rfl (hb hby own_d39_12) ?_
    show G T807 (mkF m 13 #[rv x, rv ca, iv (Int32.ofNat cs.length), iv kk] [(.int (es.getD kk.toNatClampNeg 0)), (.int (cs.getD kk.toNatClampNeg 0))])
    refine hG.st (fun _ q => XS.icmpNo S807.here hx rfl (hb hby own_d39_13) rfl (teq (own_take heq hkn : (cs.getD kk.toNatClampNeg 0) = (es.getD kk.toNatClampNeg 0))).2 (XS.iconst S807.here hx rfl (hb hby own_d39_16) (XS.goto S807.here hx rfl (pc0 := 17) (pc' := 21) rfl (hb hby own_d39_17) (by decide) (by decide) q))) ?_
    show G T807 (mkF m 21 #[rv x, rv ca, iv (Int32.ofNat cs.length), iv kk] [(.int 1)])
    exact Own.Sit.retN hR S807 hx (t := .boolean) hret (by simp) (hb hby own_d39_21) (by decide) (by decide) ⟨J807.1, rfl⟩
  ·
    refine hG.st (fun _ q => XS.icmpYes S0.here hx rfl (pc0 := 2) (pc' := 16) rfl (hb hby own_d39_2) rfl (flt hc2).2.1 (by decide) (by decide) (XS.iconst S0.here hx rfl (hb hby own_d39_16) (XS.goto S0.here hx rfl (pc0 := 17) (pc' := 21) rfl (hb hby own_d39_17) (by decide) (by decide) q))) ?_
    show G T0 (mkF m 21 #[rv x, rv ca, iv (Int32.ofNat cs.length), iv kk] [(.int 1)])
    exact Own.Sit.retN hR S0 hx (t := .boolean) hret (by simp) (hb hby own_d39_21) (by decide) (by decide) ⟨(Keep.refl _ _), rfl⟩
theorem own_a255 (x : Int32) : ¬ ((x &&& (255 : Int32)).toUInt32.toUInt16.toUInt32.toInt32) < 0 ∧ ¬ (255 : Int32) < ((x &&& (255 : Int32)).toUInt32.toUInt16.toUInt32.toInt32) := by
  have h := Own.and255 x
  have e : nar .char ((x &&& (255 : Int32)).toUInt32.toUInt16.toUInt32.toInt32) = (x &&& (255 : Int32)).toUInt32.toUInt16.toUInt32.toInt32 := by
    rw [i2c_mask]; exact i2c_mask x
  rwa [e] at h
theorem own_four {k z : Int32} (e : k = z &&& (3 : Int32)) : k = 0 ∨ k = 1 ∨ k = 2 ∨ k = 3 := by
  have h := c_and z 3 (by decide)
  have e0 : (0 : Int32).toInt = 0 := rfl
  have e1 : (1 : Int32).toInt = 1 := rfl
  have e2 : (2 : Int32).toInt = 2 := rfl
  have e3 : (3 : Int32).toInt = 3 := rfl
  rw [← e, e3] at h
  rw [← Int32.toInt_inj, ← Int32.toInt_inj, ← Int32.toInt_inj, ← Int32.toInt_inj, e0, e1, e2, e3]
  omega
theorem own_mkE0 (a b c : Int32) : own_mk 0 a b c = [] := (own_mk0 rfl).symm
theorem own_mkE1 (a b c : Int32) : own_mk 1 a b c = [a] := (own_mk1 (by decide) rfl).symm
theorem own_mkE2 (a b c : Int32) : own_mk 2 a b c = [a, b] := (own_mk2 (by decide) (by decide) rfl).symm
theorem own_mkE3 (a b c : Int32) : own_mk 3 a b c = [a, b, c] := (own_mk3 (by decide) (by decide) (by decide)).symm
theorem own_mkl (n a b c : Int32) : (own_mk n a b c).length ≤ 3 := by
  unfold own_mk
  split
  · exact Nat.zero_le _
  · split
    · exact Nat.le_of_ble_eq_true rfl
    · split
      · exact Nat.le_of_ble_eq_true rfl
      · exact Nat.le_of_ble_eq_true rfl
theorem own_pt (x : Int32) : 0 ≤ (x &&& (65535 : Int32)).toInt ∧ (x &&& (65535 : Int32)).toInt ≤ 65535 := c_and x 65535 (by decide)
theorem own_push {es pre : List Int32} {N : Nat} {d : Int32} (hes : es.length = 11) (hN : N = pre.length) (hlt : N < 11) (ht : es.take N = pre) : (es.set N d).take (N + 1) = pre ++ [d] := by
  rw [List.take_add_one, List.getElem?_set_self (by omega), List.take_set_of_le (Nat.le_refl _), ht]
  rfl
theorem own_cd {a : Int32} (h0 : 0 ≤ a.toInt) (h1 : a.toInt ≤ 9) : nar .char (((48 : Int32) + a).toUInt32.toUInt16.toUInt32.toInt32) = (48 : Int32) + a := by
  have q := own_d48 h0 h1
  have e : ((48 : Int32) + a).toUInt32.toUInt16.toUInt32.toInt32 = (48 : Int32) + a := own_nar (by omega) (by omega)
  rw [e]; exact own_nar (by omega) (by omega)
theorem own_idc {n : Nat} (h : n < 11) : ¬ Int32.ofNat n < 0 ∧ Int32.ofNat n < 11 := by
  have e : (11 : Int32).toInt = 11 := rfl
  refine ⟨own_nn (by omega), ?_⟩
  rw [Int32.lt_iff_toInt_lt, own_ti (by omega), e]; omega
theorem own_digl (p : Int32) : (own_dig p).length ≤ 5 := by
  unfold own_dig
  split
  · exact Nat.le_of_ble_eq_true rfl
  · split
    · exact Nat.le_of_ble_eq_true rfl
    · split
      · exact Nat.le_of_ble_eq_true rfl
      · split
        · exact Nat.le_of_ble_eq_true rfl
        · exact Nat.le_of_ble_eq_true rfl
theorem own_outl {cs : List Int32} (h : cs.length ≤ 3) (p : Int32) : ((own_host cs ++ [58]) ++ own_dig p).length ≤ 11 := by
  have a := own_hostl h
  have b := own_digl p
  simp only [List.length_append, List.length_cons, List.length_nil]; omega
theorem own_pn00e7d5 : plainFor x = true := by first | exact plainFor_of_name (by first | (simp [plainName, overriddenIn]; done) | decide +kernel) | decide +kernel
theorem own_os810 {z0 : Value} {z1 : Value} {z2 : Value} {z3 : Value} {z4 : Value} {z5 : Value} {s6 : Slot} {v : Int32} (h : One s6) : storeLocals #[.val z0, .val z1, .val z2, .val z3, .val z4, .val z5, s6, .unset, .unset, .unset, .unset, .unset, .unset] 6 (.int v) = some #[.val z0, .val z1, .val z2, .val z3, .val z4, .val z5, .val (.int v), .unset, .unset, .unset, .unset, .unset, .unset] := by
  rcases h with rfl | ⟨w, rfl, hw⟩
  · rfl
  · cases w <;> first | rfl | (simp [Value.category] at hw)
theorem own_pd2e8cfb : parseMethodDescriptor "(ICCC)Ljava/lang/String;" = some ⟨[.int, .char, .char, .char], some (.object "java/lang/String")⟩ := by decide +kernel
theorem own_pd791953 : parseMethodDescriptor "(Ljava/lang/String;I)V" = some ⟨[(.object "java/lang/String"), .int], none⟩ := by decide +kernel
theorem own_pd2f4f3b : parseMethodDescriptor "(Ljava/lang/String;[CII)Z" = some ⟨[(.object "java/lang/String"), (.array .char), .int, .int], some .boolean⟩ := by decide +kernel
theorem own_ef_own_law (m : MethodId) (q0 : Int32) (q1 : Int32) : entryFrame m #[(.int q0), (.int q1)] maxLocals = mkF m 0 #[iv q0, iv q1, .unset, .unset, .unset, .unset, .unset, .unset, .unset, .unset, .unset, .unset, .unset] [] := by first | (simp [entryFrame, mkF, argsToLocals, Value.category, maxLocals]; done) | rfl
set_option maxRecDepth 65536 in
set_option maxHeartbeats 40000000 in
theorem own_law (l : Launch) (Z : State) (a0 : Array Value) (H : own_Wld Z a0) {cw : List Jvm.Cond} (q0 : Int32) (q1 : Int32) {d1 d2 : Addr} {k1 k2 : ClassId} (DG : own_Dig Z d1 d2 k1 k2) (h0 : Heap) (O0 : Ext Z.heap h0) :
    Own.Con l Z consts_1 x code maxLocals ret cw room_1 #[(.int q0), (.int q1)] h0 (fun v h => Keep h0 h [] ∧ v = some (.int 1)) := by
  have hw := H.1
  have hW := fun (i : Nat) (w : Jvm.Cond) (e : tables_1[i]? = some w) => hw w (List.mem_of_getElem? e)
  have hCm := H.2.1
  have hSi := H.2.2.1
  have hEL := H.2.2.2
  have hWs : ∀ d ∈ StrChars.Road.words, d.before a0 Z = true := fun d hd => hw d (own_wbackV d hd)
  have hWl : ∀ d ∈ StrChars.Road.wordsLen, d.before a0 Z = true := fun d hd => hw d (own_wlenW d hd)
  have hSA : ∀ d ∈ Bundle.stringAtoms, d.before a0 Z = true := fun d hd => hw d (own_wSA d hd)
  refine Own.Con.of own_pn00e7d5 hEL O0 ?_
  intro p e s m below meth c T0 G vm0 hx hby hml hret hnm hG hR S0
  have hz : ∀ L : Array Slot, L.size = maxLocals → L.size = c.maxLocals := fun L q => q.trans hml.symm
  rw [own_ef_own_law]
  show G T0 (mkF m 0 #[iv q0, iv q1, .unset, .unset, .unset, .unset, .unset, .unset, .unset, .unset, .unset, .unset, .unset] [])
  refine hG.st (fun _ q => XS.iloadN S0.here hx rfl (hb hby at_0) rfl (XS.bipush S0.here hx rfl (hb hby at_1) (XS.iushr S0.here hx rfl (hb hby at_3) rfl (XS.iconst S0.here hx rfl (hb hby at_4) (XS.iand S0.here hx rfl (hb hby at_5) rfl (XS.istoreN S0.here hx rfl (hb hby at_6) rfl (l' := #[iv q0, iv q1, iv (((q0.toUInt32 >>> ((24 : Int32) &&& 31).toUInt32).toInt32) &&& (3 : Int32)), .unset, .unset, .unset, .unset, .unset, .unset, .unset, .unset, .unset, .unset]) rfl q)))))) ?_
  show G T0 (mkF m 7 #[iv q0, iv q1, iv (((q0.toUInt32 >>> ((24 : Int32) &&& 31).toUInt32).toInt32) &&& (3 : Int32)), .unset, .unset, .unset, .unset, .unset, .unset, .unset, .unset, .unset, .unset] [])
  refine hG.st (fun _ q => XS.iloadN S0.here hx rfl (hb hby at_7) rfl (XS.sipush S0.here hx rfl (hb hby at_8) (XS.iand S0.here hx rfl (hb hby at_11) rfl (XS.i2c S0.here hx rfl (hb hby at_12) rfl (XS.istoreN S0.here hx rfl (hb hby at_13) rfl (l' := #[iv q0, iv q1, iv (((q0.toUInt32 >>> ((24 : Int32) &&& 31).toUInt32).toInt32) &&& (3 : Int32)), iv ((q0 &&& (255 : Int32)).toUInt32.toUInt16.toUInt32.toInt32), .unset, .unset, .unset, .unset, .unset, .unset, .unset, .unset, .unset]) rfl (XS.iloadN S0.here hx rfl (hb hby at_14) rfl q)))))) ?_
  show G T0 (mkF m 15 #[iv q0, iv q1, iv (((q0.toUInt32 >>> ((24 : Int32) &&& 31).toUInt32).toInt32) &&& (3 : Int32)), iv ((q0 &&& (255 : Int32)).toUInt32.toUInt16.toUInt32.toInt32), .unset, .unset, .unset, .unset, .unset, .unset, .unset, .unset, .unset] [(.int q0)])
  refine hG.st (fun _ q => XS.bipush S0.here hx rfl (hb hby at_15) (XS.iushr S0.here hx rfl (hb hby at_17) rfl (XS.sipush S0.here hx rfl (hb hby at_18) (XS.iand S0.here hx rfl (hb hby at_21) rfl (XS.i2c S0.here hx rfl (hb hby at_22) rfl (XS.istore S0.here hx rfl (hb hby at_23) rfl (l' := #[iv q0, iv q1, iv (((q0.toUInt32 >>> ((24 : Int32) &&& 31).toUInt32).toInt32) &&& (3 : Int32)), iv ((q0 &&& (255 : Int32)).toUInt32.toUInt16.toUInt32.toInt32), iv ((((q0.toUInt32 >>> ((8 : Int32) &&& 31).toUInt32).toInt32) &&& (255 : Int32)).toUInt32.toUInt16.toUInt32.toInt32), .unset, .unset, .unset, .unset, .unset, .unset, .unset, .unset]) rfl q)))))) ?_
  show G T0 (mkF m 25 #[iv q0, iv q1, iv (((q0.toUInt32 >>> ((24 : Int32) &&& 31).toUInt32).toInt32) &&& (3 : Int32)), iv ((q0 &&& (255 : Int32)).toUInt32.toUInt16.toUInt32.toInt32), iv ((((q0.toUInt32 >>> ((8 : Int32) &&& 31).toUInt32).toInt32) &&& (255 : Int32)).toUInt32.toUInt16.toUInt32.toInt32), .unset, .unset, .unset, .unset, .unset, .unset, .unset, .unset] [])
  refine hG.st (fun _ q => XS.iloadN S0.here hx rfl (hb hby at_25) rfl (XS.bipush S0.here hx rfl (hb hby at_26) (XS.iushr S0.here hx rfl (hb hby at_28) rfl (XS.sipush S0.here hx rfl (hb hby at_29) (XS.iand S0.here hx rfl (hb hby at_32) rfl (XS.i2c S0.here hx rfl (hb hby at_33) rfl q)))))) ?_
  show G T0 (mkF m 34 #[iv q0, iv q1, iv (((q0.toUInt32 >>> ((24 : Int32) &&& 31).toUInt32).toInt32) &&& (3 : Int32)), iv ((q0 &&& (255 : Int32)).toUInt32.toUInt16.toUInt32.toInt32), iv ((((q0.toUInt32 >>> ((8 : Int32) &&& 31).toUInt32).toInt32) &&& (255 : Int32)).toUInt32.toUInt16.toUInt32.toInt32), .unset, .unset, .unset, .unset, .unset, .unset, .unset, .unset] [(.int ((((q0.toUInt32 >>> ((16 : Int32) &&& 31).toUInt32).toInt32) &&& (255 : Int32)).toUInt32.toUInt16.toUInt32.toInt32))])
  refine hG.st (fun _ q => XS.istore S0.here hx rfl (hb hby at_34) rfl (l' := #[iv q0, iv q1, iv (((q0.toUInt32 >>> ((24 : Int32) &&& 31).toUInt32).toInt32) &&& (3 : Int32)), iv ((q0 &&& (255 : Int32)).toUInt32.toUInt16.toUInt32.toInt32), iv ((((q0.toUInt32 >>> ((8 : Int32) &&& 31).toUInt32).toInt32) &&& (255 : Int32)).toUInt32.toUInt16.toUInt32.toInt32), iv ((((q0.toUInt32 >>> ((16 : Int32) &&& 31).toUInt32).toInt32) &&& (255 : Int32)).toUInt32.toUInt16.toUInt32.toInt32), .unset, .unset, .unset, .unset, .unset, .unset, .unset]) rfl q) ?_
  show G T0 (mkF m 36 #[iv q0, iv q1, iv (((q0.toUInt32 >>> ((24 : Int32) &&& 31).toUInt32).toInt32) &&& (3 : Int32)), iv ((q0 &&& (255 : Int32)).toUInt32.toUInt16.toUInt32.toInt32), iv ((((q0.toUInt32 >>> ((8 : Int32) &&& 31).toUInt32).toInt32) &&& (255 : Int32)).toUInt32.toUInt16.toUInt32.toInt32), iv ((((q0.toUInt32 >>> ((16 : Int32) &&& 31).toUInt32).toInt32) &&& (255 : Int32)).toUInt32.toUInt16.toUInt32.toInt32), .unset, .unset, .unset, .unset, .unset, .unset, .unset] [])
  obtain ⟨n2, en2⟩ : ∃ z : Int32, z = (((q0.toUInt32 >>> ((24 : Int32) &&& 31).toUInt32).toInt32) &&& (3 : Int32)) := ⟨_, rfl⟩
  rw [← en2]
  show G T0 (mkF m 36 #[iv q0, iv q1, iv n2, iv ((q0 &&& (255 : Int32)).toUInt32.toUInt16.toUInt32.toInt32), iv ((((q0.toUInt32 >>> ((8 : Int32) &&& 31).toUInt32).toInt32) &&& (255 : Int32)).toUInt32.toUInt16.toUInt32.toInt32), iv ((((q0.toUInt32 >>> ((16 : Int32) &&& 31).toUInt32).toInt32) &&& (255 : Int32)).toUInt32.toUInt16.toUInt32.toInt32), .unset, .unset, .unset, .unset, .unset, .unset, .unset] [])
  obtain ⟨a3, ea3⟩ : ∃ z : Int32, z = ((q0 &&& (255 : Int32)).toUInt32.toUInt16.toUInt32.toInt32) := ⟨_, rfl⟩
  rw [← ea3]
  show G T0 (mkF m 36 #[iv q0, iv q1, iv n2, iv a3, iv ((((q0.toUInt32 >>> ((8 : Int32) &&& 31).toUInt32).toInt32) &&& (255 : Int32)).toUInt32.toUInt16.toUInt32.toInt32), iv ((((q0.toUInt32 >>> ((16 : Int32) &&& 31).toUInt32).toInt32) &&& (255 : Int32)).toUInt32.toUInt16.toUInt32.toInt32), .unset, .unset, .unset, .unset, .unset, .unset, .unset] [])
  have ra3 : (¬ a3 < 0 ∧ ¬ (255 : Int32) < a3) := ea3 ▸ own_a255 _
  obtain ⟨a4, ea4⟩ : ∃ z : Int32, z = ((((q0.toUInt32 >>> ((8 : Int32) &&& 31).toUInt32).toInt32) &&& (255 : Int32)).toUInt32.toUInt16.toUInt32.toInt32) := ⟨_, rfl⟩
  rw [← ea4]
  show G T0 (mkF m 36 #[iv q0, iv q1, iv n2, iv a3, iv a4, iv ((((q0.toUInt32 >>> ((16 : Int32) &&& 31).toUInt32).toInt32) &&& (255 : Int32)).toUInt32.toUInt16.toUInt32.toInt32), .unset, .unset, .unset, .unset, .unset, .unset, .unset] [])
  have ra4 : (¬ a4 < 0 ∧ ¬ (255 : Int32) < a4) := ea4 ▸ own_a255 _
  obtain ⟨a5, ea5⟩ : ∃ z : Int32, z = ((((q0.toUInt32 >>> ((16 : Int32) &&& 31).toUInt32).toInt32) &&& (255 : Int32)).toUInt32.toUInt16.toUInt32.toInt32) := ⟨_, rfl⟩
  rw [← ea5]
  show G T0 (mkF m 36 #[iv q0, iv q1, iv n2, iv a3, iv a4, iv a5, .unset, .unset, .unset, .unset, .unset, .unset, .unset] [])
  have ra5 : (¬ a5 < 0 ∧ ¬ (255 : Int32) < a5) := ea5 ▸ own_a255 _
  have JA : ∀ (vm809 : Vm) (T809 : State) (h809 : Heap) (ca : Int32) (cb : Int32) (cc : Int32) (s6 : Slot), Own.Sit p l e room_1 s m #[(.int q0), (.int q1)] below meth c Z consts_1 "com/example/latchkey/latchkey/ListenAddressToStringPinLaw" vm809 T809 h809 0 0 → Own.Stp Z consts_1 vm0 h0 vm809 h809 [] → (¬ ca < 0 ∧ ¬ (255 : Int32) < ca) → (¬ cb < 0 ∧ ¬ (255 : Int32) < cb) → (¬ cc < 0 ∧ ¬ (255 : Int32) < cc) → One s6 → G T809 (mkF m 81 #[iv q0, iv q1, iv n2, iv ca, iv cb, iv cc, s6, .unset, .unset, .unset, .unset, .unset, .unset] []) := by
    intro vm809 T809 h809 ca cb cc s6 S809 J809 r_ca r_cb r_cc ho6
    show G T809 (mkF m 81 #[iv q0, iv q1, iv n2, iv ca, iv cb, iv cc, s6, .unset, .unset, .unset, .unset, .unset, .unset] [])
    refine hG.st (fun _ q => XS.iloadN S809.here hx rfl (hb hby at_81) rfl q) ?_
    show G T809 (mkF m 82 #[iv q0, iv q1, iv n2, iv ca, iv cb, iv cc, s6, .unset, .unset, .unset, .unset, .unset, .unset] [(.int q1)])
    refine Own.Sit.ldcI hG S809 hx (hW 0 _ rfl) rfl (hb hby at_82) ?_
    show G T809 (mkF m 84 #[iv q0, iv q1, iv n2, iv ca, iv cb, iv cc, s6, .unset, .unset, .unset, .unset, .unset, .unset] [(.int 65535), (.int q1)])
    refine hG.st (fun _ q => XS.iand S809.here hx rfl (hb hby at_84) rfl (XS.istore S809.here hx rfl (hb hby at_85) rfl (l' := #[iv q0, iv q1, iv n2, iv ca, iv cb, iv cc, iv (q1 &&& (65535 : Int32)), .unset, .unset, .unset, .unset, .unset, .unset]) (own_os810 ho6) q)) ?_
    show G T809 (mkF m 87 #[iv q0, iv q1, iv n2, iv ca, iv cb, iv cc, iv (q1 &&& (65535 : Int32)), .unset, .unset, .unset, .unset, .unset, .unset] [])
    obtain ⟨pt, ept⟩ : ∃ z : Int32, z = (q1 &&& (65535 : Int32)) := ⟨_, rfl⟩
    rw [← ept]
    show G T809 (mkF m 87 #[iv q0, iv q1, iv n2, iv ca, iv cb, iv cc, iv pt, .unset, .unset, .unset, .unset, .unset, .unset] [])
    have hp : 0 ≤ pt.toInt ∧ pt.toInt ≤ 65535 := ept ▸ own_pt _
    refine hG.st (fun _ q => XS.iloadN S809.here hx rfl (hb hby at_87) rfl (XS.iloadN S809.here hx rfl (hb hby at_88) rfl (XS.iload S809.here hx rfl (hb hby at_89) rfl (XS.iload S809.here hx rfl (hb hby at_91) rfl q)))) ?_
    show G T809 (mkF m 93 #[iv q0, iv q1, iv n2, iv ca, iv cb, iv cc, iv pt, .unset, .unset, .unset, .unset, .unset, .unset] [(.int cc), (.int cb), (.int ca), (.int n2)])
    refine Own.Sit.callS hG S809 hx hEL (as := [(.int n2), (.int ca), (.int cb), (.int cc)]) (hW 1 _ rfl) (hW 2 _ rfl) (hW 3 _ rfl) (hW 4 _ rfl) (by decide) (own_make l Z a0 H n2 ca cb cc h809 S809.old r_ca r_cb r_cc) own_pd2e8cfb rfl rfl (hz _ rfl) (rest := []) rfl (W := 0) (Own.hw0 rfl rfl) (hb hby at_93) (by decide) (by decide) (by decide) (by decide) (fun v811 vm811 T811 h811 S811 C811 q811 => ?_)
    obtain ⟨K811, x811, y811, cs811, rfl, St811, u811, hcs⟩ := q811
    have J811 : Own.Stp Z consts_1 vm809 h809 vm811 h811 [] := ⟨K811, C811⟩
    refine hG.st (fun _ q => XS.astore S811.here hx rfl (hb hby at_96) rfl rfl (l' := #[iv q0, iv q1, iv n2, iv ca, iv cb, iv cc, iv pt, rv x811, .unset, .unset, .unset, .unset, .unset]) rfl q) ?_
    show G T811 (mkF m 98 #[iv q0, iv q1, iv n2, iv ca, iv cb, iv cc, iv pt, rv x811, .unset, .unset, .unset, .unset, .unset] [])
    have hl3 : cs811.length ≤ 3 := by rw [hcs]; exact own_mkl _ _ _ _
    refine Own.Sit.newO hG S811 hx (hW 27 _ rfl) (hW 28 _ rfl) (hW 29 _ rfl) rfl (hb hby at_98) (by decide) (by decide) (fun T812 h812 x812 g_x812 S812 J812 Sf812 E812 D812 => ?_)
    have lt_x812 := E812.lt
    have ga_x812 : Z.heap.size ≤ x812 := Nat.le_trans S811.le (Nat.le_of_eq g_x812.symm)
    have F813 : Fld Z h812 x812 "com/example/latchkey/latchkey/ListenAddress" "host" "Ljava/lang/String;" .null := D812 (Or.inr (hW 35 _ rfl)) (ty := (.object "java/lang/String")) (by decide)
    have F814 : Fld Z h812 x812 "com/example/latchkey/latchkey/ListenAddress" "port" "I" (.int 0) := D812 (Or.inr (hW 37 _ rfl)) (ty := .int) (by decide)
    refine hG.st (fun _ q => XS.dup S812.here hx rfl (hb hby at_101) rfl rfl (XS.aload S812.here hx rfl (hb hby at_102) rfl rfl (XS.iload S812.here hx rfl (hb hby at_104) rfl q))) ?_
    show G T812 (mkF m 106 #[iv q0, iv q1, iv n2, iv ca, iv cb, iv cc, iv pt, rv x811, .unset, .unset, .unset, .unset, .unset] [(.int pt), (.ref x811), (.ref x812), (.ref x812)])
    refine Own.Sit.callI hG S812 hx hEL rfl (as := [(.ref x811), (.int pt)]) (hW 30 _ rfl) (hW 31 _ rfl) (hW 29 _ rfl) (hW 32 _ rfl) (by decide) (own_init l Z a0 H x812 x811 pt h812 S812.old ga_x812 E812 F813 F814) own_pd791953 rfl rfl (hz _ rfl) (rest := [(.ref x812)]) rfl (W := 1) (Own.hw0 rfl rfl) (hb hby at_106) (by decide) (by decide) (by decide) (by decide) (fun v815 vm815 T815 h815 S815 C815 q815 => ?_)
    obtain ⟨K815, rfl, Fh815, Fp815⟩ := q815
    have J815 : Own.Stp Z consts_1 vm811 h812 vm815 h815 [x812] := ⟨K815, C815⟩
    have E816 := J815.exa E812
    have J817 : Own.Stp Z consts_1 vm811 h811 vm815 h815 [] := Own.Stp.trans J812 J815 (all0) (allS (Or.inr (Nat.le_of_eq g_x812.symm)) all0)
    have St818 := J817.str St811 nin0 nin0
    show G T815 (mkF m 109 #[iv q0, iv q1, iv n2, iv ca, iv cb, iv cc, iv pt, rv x811, .unset, .unset, .unset, .unset, .unset] [(.ref x812)])
    refine Own.Sit.callV hG S815 hx hEL (as := []) (hW 38 _ rfl) (hW 39 _ rfl) (hW 41 _ rfl) (hW 40 _ rfl) (hW 29 _ rfl) (hW 42 _ rfl) (by decide) E816 (own_tst l Z a0 H x812 x811 y811 pt cs811 d1 d2 h815 S815.old E816 Fh815 Fp815 St818 hl3 hp DG) own_pdaf964f rfl rfl (hz _ rfl) (rest := []) rfl (W := 0) (Own.hw0 rfl rfl) (hb hby at_109) (by decide) (by decide) (by decide) (by decide) (fun v819 vm819 T819 h819 S819 C819 q819 => ?_)
    obtain ⟨K819, x819, y819, rfl, St819, u819⟩ := q819
    have J819 : Own.Stp Z consts_1 vm815 h815 vm819 h819 [] := ⟨K819, C819⟩
    refine hG.st (fun _ q => XS.astore S819.here hx rfl (hb hby at_112) rfl rfl (l' := #[iv q0, iv q1, iv n2, iv ca, iv cb, iv cc, iv pt, rv x811, rv x819, .unset, .unset, .unset, .unset]) rfl q) ?_
    show G T819 (mkF m 114 #[iv q0, iv q1, iv n2, iv ca, iv cb, iv cc, iv pt, rv x811, rv x819, .unset, .unset, .unset, .unset] [])
    have JE : ∀ (vm820 : Vm) (T820 : State) (h820 : Heap) (m2 : Int32) (f9 : Int32) (x10 : Addr) (k10 : ClassId) (es : List Int32) (m12 : Int32), Own.Sit p l e room_1 s m #[(.int q0), (.int q1)] below meth c Z consts_1 "com/example/latchkey/latchkey/ListenAddressToStringPinLaw" vm820 T820 h820 40 1200 → Own.Stp Z consts_1 vm819 h819 vm820 h820 [] → Arv Z h820 x10 k10 .char (11 : Int32) (es.map Value.int) (.int 0) → es.length = 11 → es.take ((own_host cs811 ++ [58]) ++ own_dig pt).length = ((own_host cs811 ++ [58]) ++ own_dig pt) → G T820 (mkF m 449 #[iv q0, iv q1, iv m2, iv ca, iv cb, iv cc, iv pt, rv x811, rv x819, iv f9, rv x10, iv (Int32.ofNat ((own_host cs811 ++ [58]) ++ own_dig pt).length), iv m12] []) := by
      intro vm820 T820 h820 m2 f9 x10 k10 es m12 S820 J820 A10 hes heq
      have hcl : ((own_host cs811 ++ [58]) ++ own_dig pt).length ≤ 11 := own_outl hl3 pt
      show G T820 (mkF m 449 #[iv q0, iv q1, iv m2, iv ca, iv cb, iv cc, iv pt, rv x811, rv x819, iv f9, rv x10, iv (Int32.ofNat ((own_host cs811 ++ [58]) ++ own_dig pt).length), iv m12] [])
      refine hG.st (fun _ q => XS.aload S820.here hx rfl (hb hby at_449) rfl rfl (XS.ifnullNo S820.here hx rfl (hb hby at_451) rfl (XS.aload S820.here hx rfl (hb hby at_454) rfl rfl q))) ?_
      show G T820 (mkF m 456 #[iv q0, iv q1, iv m2, iv ca, iv cb, iv cc, iv pt, rv x811, rv x819, iv f9, rv x10, iv (Int32.ofNat ((own_host cs811 ++ [58]) ++ own_dig pt).length), iv m12] [(.ref x819)])
      have St821 := J820.str St819 nin0 nin0
      refine Own.Sit.strLen hG S820 hx hWl hCm (hW 6 _ rfl) (hW 201 _ rfl) (hW 107 _ rfl) (hW 109 _ rfl) (hW 108 _ rfl) St821 rfl (hz _ rfl) (rest := []) rfl (W := 0) (Own.hw0 rfl rfl) (hb hby at_456) (by decide) (by decide) (by decide) (by decide) (fun T822 S822 => ?_)
      refine hG.st (fun _ q => XS.iload S822.here hx rfl (hb hby at_459) rfl (XS.icmpYes S822.here hx rfl (pc0 := 461) (pc' := 466) rfl (hb hby at_461) rfl (teq (rfl : (Int32.ofNat (((own_host cs811 ++ [58]) ++ own_dig pt)).length) = (Int32.ofNat ((own_host cs811 ++ [58]) ++ own_dig pt).length))).1 (by decide) (by decide) (XS.aload S822.here hx rfl (hb hby at_466) rfl rfl (XS.aload S822.here hx rfl (hb hby at_468) rfl rfl (XS.iload S822.here hx rfl (hb hby at_470) rfl (XS.iconst S822.here hx rfl (hb hby at_472) q)))))) ?_
      show G T822 (mkF m 473 #[iv q0, iv q1, iv m2, iv ca, iv cb, iv cc, iv pt, rv x811, rv x819, iv f9, rv x10, iv (Int32.ofNat ((own_host cs811 ++ [58]) ++ own_dig pt).length), iv m12] [(.int 0), (.int (Int32.ofNat ((own_host cs811 ++ [58]) ++ own_dig pt).length)), (.ref x10), (.ref x819)])
      refine Own.Sit.callS hG S822 hx hEL (as := [(.ref x819), (.ref x10), (.int (Int32.ofNat ((own_host cs811 ++ [58]) ++ own_dig pt).length)), (.int 0)]) (hW 202 _ rfl) (hW 203 _ rfl) (hW 3 _ rfl) (hW 204 _ rfl) (by decide) (own_at l Z a0 H x819 x10 (0 : Int32) y819 ((own_host cs811 ++ [58]) ++ own_dig pt) es h820 S822.old St821 A10 hes hcl heq (by decide)) own_pd2f4f3b rfl rfl (hz _ rfl) (rest := []) rfl (W := 0) (Own.hw0 rfl rfl) (hb hby at_473) (by decide) (by decide) (by decide) (by decide) (fun v823 vm823 T823 h823 S823 C823 q823 => ?_)
      obtain ⟨K823, rfl⟩ := q823
      have J823 : Own.Stp Z consts_1 vm820 h820 vm823 h823 [] := ⟨K823, C823⟩
      refine hG.st (fun _ q => XS.ifNo S823.here hx rfl (hb hby at_476) rfl ((if0 _ _).trans (feq (by decide : ¬ ((1 : Int32) = (0 : Int32)))).1) (XS.aload S823.here hx rfl (hb hby at_479) rfl rfl (XS.aload S823.here hx rfl (hb hby at_481) rfl rfl (XS.iload S823.here hx rfl (hb hby at_483) rfl (XS.iconst S823.here hx rfl (hb hby at_485) q))))) ?_
      show G T823 (mkF m 486 #[iv q0, iv q1, iv m2, iv ca, iv cb, iv cc, iv pt, rv x811, rv x819, iv f9, rv x10, iv (Int32.ofNat ((own_host cs811 ++ [58]) ++ own_dig pt).length), iv m12] [(.int 1), (.int (Int32.ofNat ((own_host cs811 ++ [58]) ++ own_dig pt).length)), (.ref x10), (.ref x819)])
      have St824 := J823.str St821 nin0 nin0
      have V825 := J823.arv A10 nin0
      refine Own.Sit.callS hG S823 hx hEL (as := [(.ref x819), (.ref x10), (.int (Int32.ofNat ((own_host cs811 ++ [58]) ++ own_dig pt).length)), (.int 1)]) (hW 202 _ rfl) (hW 203 _ rfl) (hW 3 _ rfl) (hW 204 _ rfl) (by decide) (own_at l Z a0 H x819 x10 (1 : Int32) y819 ((own_host cs811 ++ [58]) ++ own_dig pt) es h823 S823.old St824 V825 hes hcl heq (by decide)) own_pd2f4f3b rfl rfl (hz _ rfl) (rest := []) rfl (W := 0) (Own.hw0 rfl rfl) (hb hby at_486) (by decide) (by decide) (by decide) (by decide) (fun v826 vm826 T826 h826 S826 C826 q826 => ?_)
      obtain ⟨K826, rfl⟩ := q826
      have J826 : Own.Stp Z consts_1 vm823 h823 vm826 h826 [] := ⟨K826, C826⟩
      refine hG.st (fun _ q => XS.ifNo S826.here hx rfl (hb hby at_489) rfl ((if0 _ _).trans (feq (by decide : ¬ ((1 : Int32) = (0 : Int32)))).1) (XS.aload S826.here hx rfl (hb hby at_492) rfl rfl (XS.aload S826.here hx rfl (hb hby at_494) rfl rfl (XS.iload S826.here hx rfl (hb hby at_496) rfl (XS.iconst S826.here hx rfl (hb hby at_498) q))))) ?_
      show G T826 (mkF m 499 #[iv q0, iv q1, iv m2, iv ca, iv cb, iv cc, iv pt, rv x811, rv x819, iv f9, rv x10, iv (Int32.ofNat ((own_host cs811 ++ [58]) ++ own_dig pt).length), iv m12] [(.int 2), (.int (Int32.ofNat ((own_host cs811 ++ [58]) ++ own_dig pt).length)), (.ref x10), (.ref x819)])
      have St827 := J826.str St824 nin0 nin0
      have V828 := J826.arv V825 nin0
      refine Own.Sit.callS hG S826 hx hEL (as := [(.ref x819), (.ref x10), (.int (Int32.ofNat ((own_host cs811 ++ [58]) ++ own_dig pt).length)), (.int 2)]) (hW 202 _ rfl) (hW 203 _ rfl) (hW 3 _ rfl) (hW 204 _ rfl) (by decide) (own_at l Z a0 H x819 x10 (2 : Int32) y819 ((own_host cs811 ++ [58]) ++ own_dig pt) es h826 S826.old St827 V828 hes hcl heq (by decide)) own_pd2f4f3b rfl rfl (hz _ rfl) (rest := []) rfl (W := 0) (Own.hw0 rfl rfl) (hb hby at_499) (by decide) (by decide) (by decide) (by decide) (fun v829 vm829 T829 h829 S829 C829 q829 => ?_)
      obtain ⟨K829, rfl⟩ := q829
      have J829 : Own.Stp Z consts_1 vm826 h826 vm829 h829 [] := ⟨K829, C829⟩
      refine hG.st (fun _ q => XS.ifNo S829.here hx rfl (hb hby at_502) rfl ((if0 _ _).trans (feq (by decide : ¬ ((1 : Int32) = (0 : Int32)))).1) (XS.aload S829.here hx rfl (hb hby at_505) rfl rfl (XS.aload S829.here hx rfl (hb hby at_507) rfl rfl (XS.iload S829.here hx rfl (hb hby at_509) rfl (XS.iconst S829.here hx rfl (hb hby at_511) q))))) ?_
      show G T829 (mkF m 512 #[iv q0, iv q1, iv m2, iv ca, iv cb, iv cc, iv pt, rv x811, rv x819, iv f9, rv x10, iv (Int32.ofNat ((own_host cs811 ++ [58]) ++ own_dig pt).length), iv m12] [(.int 3), (.int (Int32.ofNat ((own_host cs811 ++ [58]) ++ own_dig pt).length)), (.ref x10), (.ref x819)])
      have St830 := J829.str St827 nin0 nin0
      have V831 := J829.arv V828 nin0
      refine Own.Sit.callS hG S829 hx hEL (as := [(.ref x819), (.ref x10), (.int (Int32.ofNat ((own_host cs811 ++ [58]) ++ own_dig pt).length)), (.int 3)]) (hW 202 _ rfl) (hW 203 _ rfl) (hW 3 _ rfl) (hW 204 _ rfl) (by decide) (own_at l Z a0 H x819 x10 (3 : Int32) y819 ((own_host cs811 ++ [58]) ++ own_dig pt) es h829 S829.old St830 V831 hes hcl heq (by decide)) own_pd2f4f3b rfl rfl (hz _ rfl) (rest := []) rfl (W := 0) (Own.hw0 rfl rfl) (hb hby at_512) (by decide) (by decide) (by decide) (by decide) (fun v832 vm832 T832 h832 S832 C832 q832 => ?_)
      obtain ⟨K832, rfl⟩ := q832
      have J832 : Own.Stp Z consts_1 vm829 h829 vm832 h832 [] := ⟨K832, C832⟩
      refine hG.st (fun _ q => XS.ifNo S832.here hx rfl (hb hby at_515) rfl ((if0 _ _).trans (feq (by decide : ¬ ((1 : Int32) = (0 : Int32)))).1) (XS.aload S832.here hx rfl (hb hby at_518) rfl rfl (XS.aload S832.here hx rfl (hb hby at_520) rfl rfl (XS.iload S832.here hx rfl (hb hby at_522) rfl (XS.iconst S832.here hx rfl (hb hby at_524) q))))) ?_
      show G T832 (mkF m 525 #[iv q0, iv q1, iv m2, iv ca, iv cb, iv cc, iv pt, rv x811, rv x819, iv f9, rv x10, iv (Int32.ofNat ((own_host cs811 ++ [58]) ++ own_dig pt).length), iv m12] [(.int 4), (.int (Int32.ofNat ((own_host cs811 ++ [58]) ++ own_dig pt).length)), (.ref x10), (.ref x819)])
      have St833 := J832.str St830 nin0 nin0
      have V834 := J832.arv V831 nin0
      refine Own.Sit.callS hG S832 hx hEL (as := [(.ref x819), (.ref x10), (.int (Int32.ofNat ((own_host cs811 ++ [58]) ++ own_dig pt).length)), (.int 4)]) (hW 202 _ rfl) (hW 203 _ rfl) (hW 3 _ rfl) (hW 204 _ rfl) (by decide) (own_at l Z a0 H x819 x10 (4 : Int32) y819 ((own_host cs811 ++ [58]) ++ own_dig pt) es h832 S832.old St833 V834 hes hcl heq (by decide)) own_pd2f4f3b rfl rfl (hz _ rfl) (rest := []) rfl (W := 0) (Own.hw0 rfl rfl) (hb hby at_525) (by decide) (by decide) (by decide) (by decide) (fun v835 vm835 T835 h835 S835 C835 q835 => ?_)
      obtain ⟨K835, rfl⟩ := q835
      have J835 : Own.Stp Z consts_1 vm832 h832 vm835 h835 [] := ⟨K835, C835⟩
      refine hG.st (fun _ q => XS.ifNo S835.here hx rfl (hb hby at_528) rfl ((if0 _ _).trans (feq (by decide : ¬ ((1 : Int32) = (0 : Int32)))).1) (XS.aload S835.here hx rfl (hb hby at_531) rfl rfl (XS.aload S835.here hx rfl (hb hby at_533) rfl rfl (XS.iload S835.here hx rfl (hb hby at_535) rfl (XS.iconst S835.here hx rfl (hb hby at_537) q))))) ?_
      show G T835 (mkF m 538 #[iv q0, iv q1, iv m2, iv ca, iv cb, iv cc, iv pt, rv x811, rv x819, iv f9, rv x10, iv (Int32.ofNat ((own_host cs811 ++ [58]) ++ own_dig pt).length), iv m12] [(.int 5), (.int (Int32.ofNat ((own_host cs811 ++ [58]) ++ own_dig pt).length)), (.ref x10), (.ref x819)])
      have St836 := J835.str St833 nin0 nin0
      have V837 := J835.arv V834 nin0
      refine Own.Sit.callS hG S835 hx hEL (as := [(.ref x819), (.ref x10), (.int (Int32.ofNat ((own_host cs811 ++ [58]) ++ own_dig pt).length)), (.int 5)]) (hW 202 _ rfl) (hW 203 _ rfl) (hW 3 _ rfl) (hW 204 _ rfl) (by decide) (own_at l Z a0 H x819 x10 (5 : Int32) y819 ((own_host cs811 ++ [58]) ++ own_dig pt) es h835 S835.old St836 V837 hes hcl heq (by decide)) own_pd2f4f3b rfl rfl (hz _ rfl) (rest := []) rfl (W := 0) (Own.hw0 rfl rfl) (hb hby at_538) (by decide) (by decide) (by decide) (by decide) (fun v838 vm838 T838 h838 S838 C838 q838 => ?_)
      obtain ⟨K838, rfl⟩ := q838
      have J838 : Own.Stp Z consts_1 vm835 h835 vm838 h838 [] := ⟨K838, C838⟩
      refine hG.st (fun _ q => XS.ifNo S838.here hx rfl (hb hby at_541) rfl ((if0 _ _).trans (feq (by decide : ¬ ((1 : Int32) = (0 : Int32)))).1) (XS.aload S838.here hx rfl (hb hby at_544) rfl rfl (XS.aload S838.here hx rfl (hb hby at_546) rfl rfl (XS.iload S838.here hx rfl (hb hby at_548) rfl (XS.bipush S838.here hx rfl (hb hby at_550) q))))) ?_
      show G T838 (mkF m 552 #[iv q0, iv q1, iv m2, iv ca, iv cb, iv cc, iv pt, rv x811, rv x819, iv f9, rv x10, iv (Int32.ofNat ((own_host cs811 ++ [58]) ++ own_dig pt).length), iv m12] [(.int 6), (.int (Int32.ofNat ((own_host cs811 ++ [58]) ++ own_dig pt).length)), (.ref x10), (.ref x819)])
      have St839 := J838.str St836 nin0 nin0
      have V840 := J838.arv V837 nin0
      refine Own.Sit.callS hG S838 hx hEL (as := [(.ref x819), (.ref x10), (.int (Int32.ofNat ((own_host cs811 ++ [58]) ++ own_dig pt).length)), (.int 6)]) (hW 202 _ rfl) (hW 203 _ rfl) (hW 3 _ rfl) (hW 204 _ rfl) (by decide) (own_at l Z a0 H x819 x10 (6 : Int32) y819 ((own_host cs811 ++ [58]) ++ own_dig pt) es h838 S838.old St839 V840 hes hcl heq (by decide)) own_pd2f4f3b rfl rfl (hz _ rfl) (rest := []) rfl (W := 0) (Own.hw0 rfl rfl) (hb hby at_552) (by decide) (by decide) (by decide) (by decide) (fun v841 vm841 T841 h841 S841 C841 q841 => ?_)
      obtain ⟨K841, rfl⟩ := q841
      have J841 : Own.Stp Z consts_1 vm838 h838 vm841 h841 [] := ⟨K841, C841⟩
      refine hG.st (fun _ q => XS.ifNo S841.here hx rfl (hb hby at_555) rfl ((if0 _ _).trans (feq (by decide : ¬ ((1 : Int32) = (0 : Int32)))).1) (XS.aload S841.here hx rfl (hb hby at_558) rfl rfl (XS.aload S841.here hx rfl (hb hby at_560) rfl rfl (XS.iload S841.here hx rfl (hb hby at_562) rfl (XS.bipush S841.here hx rfl (hb hby at_564) q))))) ?_
      show G T841 (mkF m 566 #[iv q0, iv q1, iv m2, iv ca, iv cb, iv cc, iv pt, rv x811, rv x819, iv f9, rv x10, iv (Int32.ofNat ((own_host cs811 ++ [58]) ++ own_dig pt).length), iv m12] [(.int 7), (.int (Int32.ofNat ((own_host cs811 ++ [58]) ++ own_dig pt).length)), (.ref x10), (.ref x819)])
      have St842 := J841.str St839 nin0 nin0
      have V843 := J841.arv V840 nin0
      refine Own.Sit.callS hG S841 hx hEL (as := [(.ref x819), (.ref x10), (.int (Int32.ofNat ((own_host cs811 ++ [58]) ++ own_dig pt).length)), (.int 7)]) (hW 202 _ rfl) (hW 203 _ rfl) (hW 3 _ rfl) (hW 204 _ rfl) (by decide) (own_at l Z a0 H x819 x10 (7 : Int32) y819 ((own_host cs811 ++ [58]) ++ own_dig pt) es h841 S841.old St842 V843 hes hcl heq (by decide)) own_pd2f4f3b rfl rfl (hz _ rfl) (rest := []) rfl (W := 0) (Own.hw0 rfl rfl) (hb hby at_566) (by decide) (by decide) (by decide) (by decide) (fun v844 vm844 T844 h844 S844 C844 q844 => ?_)
      obtain ⟨K844, rfl⟩ := q844
      have J844 : Own.Stp Z consts_1 vm841 h841 vm844 h844 [] := ⟨K844, C844⟩
      refine hG.st (fun _ q => XS.ifNo S844.here hx rfl (hb hby at_569) rfl ((if0 _ _).trans (feq (by decide : ¬ ((1 : Int32) = (0 : Int32)))).1) (XS.aload S844.here hx rfl (hb hby at_572) rfl rfl (XS.aload S844.here hx rfl (hb hby at_574) rfl rfl (XS.iload S844.here hx rfl (hb hby at_576) rfl (XS.bipush S844.here hx rfl (hb hby at_578) q))))) ?_
      show G T844 (mkF m 580 #[iv q0, iv q1, iv m2, iv ca, iv cb, iv cc, iv pt, rv x811, rv x819, iv f9, rv x10, iv (Int32.ofNat ((own_host cs811 ++ [58]) ++ own_dig pt).length), iv m12] [(.int 8), (.int (Int32.ofNat ((own_host cs811 ++ [58]) ++ own_dig pt).length)), (.ref x10), (.ref x819)])
      have St845 := J844.str St842 nin0 nin0
      have V846 := J844.arv V843 nin0
      refine Own.Sit.callS hG S844 hx hEL (as := [(.ref x819), (.ref x10), (.int (Int32.ofNat ((own_host cs811 ++ [58]) ++ own_dig pt).length)), (.int 8)]) (hW 202 _ rfl) (hW 203 _ rfl) (hW 3 _ rfl) (hW 204 _ rfl) (by decide) (own_at l Z a0 H x819 x10 (8 : Int32) y819 ((own_host cs811 ++ [58]) ++ own_dig pt) es h844 S844.old St845 V846 hes hcl heq (by decide)) own_pd2f4f3b rfl rfl (hz _ rfl) (rest := []) rfl (W := 0) (Own.hw0 rfl rfl) (hb hby at_580) (by decide) (by decide) (by decide) (by decide) (fun v847 vm847 T847 h847 S847 C847 q847 => ?_)
      obtain ⟨K847, rfl⟩ := q847
      have J847 : Own.Stp Z consts_1 vm844 h844 vm847 h847 [] := ⟨K847, C847⟩
      refine hG.st (fun _ q => XS.ifNo S847.here hx rfl (hb hby at_583) rfl ((if0 _ _).trans (feq (by decide : ¬ ((1 : Int32) = (0 : Int32)))).1) (XS.aload S847.here hx rfl (hb hby at_586) rfl rfl (XS.aload S847.here hx rfl (hb hby at_588) rfl rfl (XS.iload S847.here hx rfl (hb hby at_590) rfl (XS.bipush S847.here hx rfl (hb hby at_592) q))))) ?_
      show G T847 (mkF m 594 #[iv q0, iv q1, iv m2, iv ca, iv cb, iv cc, iv pt, rv x811, rv x819, iv f9, rv x10, iv (Int32.ofNat ((own_host cs811 ++ [58]) ++ own_dig pt).length), iv m12] [(.int 9), (.int (Int32.ofNat ((own_host cs811 ++ [58]) ++ own_dig pt).length)), (.ref x10), (.ref x819)])
      have St848 := J847.str St845 nin0 nin0
      have V849 := J847.arv V846 nin0
      refine Own.Sit.callS hG S847 hx hEL (as := [(.ref x819), (.ref x10), (.int (Int32.ofNat ((own_host cs811 ++ [58]) ++ own_dig pt).length)), (.int 9)]) (hW 202 _ rfl) (hW 203 _ rfl) (hW 3 _ rfl) (hW 204 _ rfl) (by decide) (own_at l Z a0 H x819 x10 (9 : Int32) y819 ((own_host cs811 ++ [58]) ++ own_dig pt) es h847 S847.old St848 V849 hes hcl heq (by decide)) own_pd2f4f3b rfl rfl (hz _ rfl) (rest := []) rfl (W := 0) (Own.hw0 rfl rfl) (hb hby at_594) (by decide) (by decide) (by decide) (by decide) (fun v850 vm850 T850 h850 S850 C850 q850 => ?_)
      obtain ⟨K850, rfl⟩ := q850
      have J850 : Own.Stp Z consts_1 vm847 h847 vm850 h850 [] := ⟨K850, C850⟩
      refine hG.st (fun _ q => XS.ifNo S850.here hx rfl (hb hby at_597) rfl ((if0 _ _).trans (feq (by decide : ¬ ((1 : Int32) = (0 : Int32)))).1) (XS.aload S850.here hx rfl (hb hby at_600) rfl rfl (XS.aload S850.here hx rfl (hb hby at_602) rfl rfl (XS.iload S850.here hx rfl (hb hby at_604) rfl (XS.bipush S850.here hx rfl (hb hby at_606) q))))) ?_
      show G T850 (mkF m 608 #[iv q0, iv q1, iv m2, iv ca, iv cb, iv cc, iv pt, rv x811, rv x819, iv f9, rv x10, iv (Int32.ofNat ((own_host cs811 ++ [58]) ++ own_dig pt).length), iv m12] [(.int 10), (.int (Int32.ofNat ((own_host cs811 ++ [58]) ++ own_dig pt).length)), (.ref x10), (.ref x819)])
      have St851 := J850.str St848 nin0 nin0
      have V852 := J850.arv V849 nin0
      refine Own.Sit.callS hG S850 hx hEL (as := [(.ref x819), (.ref x10), (.int (Int32.ofNat ((own_host cs811 ++ [58]) ++ own_dig pt).length)), (.int 10)]) (hW 202 _ rfl) (hW 203 _ rfl) (hW 3 _ rfl) (hW 204 _ rfl) (by decide) (own_at l Z a0 H x819 x10 (10 : Int32) y819 ((own_host cs811 ++ [58]) ++ own_dig pt) es h850 S850.old St851 V852 hes hcl heq (by decide)) own_pd2f4f3b rfl rfl (hz _ rfl) (rest := []) rfl (W := 0) (Own.hw0 rfl rfl) (hb hby at_608) (by decide) (by decide) (by decide) (by decide) (fun v853 vm853 T853 h853 S853 C853 q853 => ?_)
      obtain ⟨K853, rfl⟩ := q853
      have J853 : Own.Stp Z consts_1 vm850 h850 vm853 h853 [] := ⟨K853, C853⟩
      refine hG.st (fun _ q => XS.ifNo S853.here hx rfl (hb hby at_611) rfl ((if0 _ _).trans (feq (by decide : ¬ ((1 : Int32) = (0 : Int32)))).1) (XS.iconst S853.here hx rfl (hb hby at_614) (XS.goto S853.here hx rfl (pc0 := 615) (pc' := 619) rfl (hb hby at_615) (by decide) (by decide) q))) ?_
      show G T853 (mkF m 619 #[iv q0, iv q1, iv m2, iv ca, iv cb, iv cc, iv pt, rv x811, rv x819, iv f9, rv x10, iv (Int32.ofNat ((own_host cs811 ++ [58]) ++ own_dig pt).length), iv m12] [(.int 1)])
      have J854 : Own.Stp Z consts_1 vm0 h0 vm811 h811 [] := Own.Stp.trans J809 J811 (all0) all0
      have J855 : Own.Stp Z consts_1 vm0 h0 vm811 h812 [] := Own.Stp.trans J854 J812 (all0) all0
      have J856 : Own.Stp Z consts_1 vm0 h0 vm815 h815 [] := Own.Stp.trans J855 J815 (all0) (allS (Or.inr (Nat.le_trans J854.1.1 (Nat.le_of_eq g_x812.symm))) all0)
      have J857 : Own.Stp Z consts_1 vm0 h0 vm819 h819 [] := Own.Stp.trans J856 J819 (all0) all0
      have J858 : Own.Stp Z consts_1 vm0 h0 vm820 h820 [] := Own.Stp.trans J857 J820 (all0) all0
      have J859 : Own.Stp Z consts_1 vm0 h0 vm823 h823 [] := Own.Stp.trans J858 J823 (all0) all0
      have J860 : Own.Stp Z consts_1 vm0 h0 vm826 h826 [] := Own.Stp.trans J859 J826 (all0) all0
      have J861 : Own.Stp Z consts_1 vm0 h0 vm829 h829 [] := Own.Stp.trans J860 J829 (all0) all0
      have J862 : Own.Stp Z consts_1 vm0 h0 vm832 h832 [] := Own.Stp.trans J861 J832 (all0) all0
      have J863 : Own.Stp Z consts_1 vm0 h0 vm835 h835 [] := Own.Stp.trans J862 J835 (all0) all0
      have J864 : Own.Stp Z consts_1 vm0 h0 vm838 h838 [] := Own.Stp.trans J863 J838 (all0) all0
      have J865 : Own.Stp Z consts_1 vm0 h0 vm841 h841 [] := Own.Stp.trans J864 J841 (all0) all0
      have J866 : Own.Stp Z consts_1 vm0 h0 vm844 h844 [] := Own.Stp.trans J865 J844 (all0) all0
      have J867 : Own.Stp Z consts_1 vm0 h0 vm847 h847 [] := Own.Stp.trans J866 J847 (all0) all0
      have J868 : Own.Stp Z consts_1 vm0 h0 vm850 h850 [] := Own.Stp.trans J867 J850 (all0) all0
      have J869 : Own.Stp Z consts_1 vm0 h0 vm853 h853 [] := Own.Stp.trans J868 J853 (all0) all0
      exact Own.Sit.retN hR S853 hx (t := .boolean) hret (by simp) (hb hby at_619) (by decide) (by decide) ⟨J869.1, rfl⟩
    have JD : ∀ (vm870 : Vm) (T870 : State) (h870 : Heap) (m2 : Int32) (f9 : Int32) (x10 : Addr) (k10 : ClassId) (es : List Int32) (N : Nat), Own.Sit p l e room_1 s m #[(.int q0), (.int q1)] below meth c Z consts_1 "com/example/latchkey/latchkey/ListenAddressToStringPinLaw" vm870 T870 h870 40 1200 → Own.Stp Z consts_1 vm819 h819 vm870 h870 [] → Arv Z h870 x10 k10 .char (11 : Int32) (es.map Value.int) (.int 0) → es.length = 11 → Z.heap.size ≤ x10 → h819.size ≤ x10 → N = (own_host cs811 ++ [58]).length → es.take N = (own_host cs811 ++ [58]) → G T870 (mkF m 265 #[iv q0, iv q1, iv m2, iv ca, iv cb, iv cc, iv pt, rv x811, rv x819, iv f9, rv x10, iv (Int32.ofNat N), .unset] []) := by
      intro vm870 T870 h870 m2 f9 x10 k10 es N S870 J870 A10 hes ga10 u10 hN ht
      have hN6 : N ≤ 6 := by
        have a := own_hostl hl3
        rw [hN]; simp only [List.length_append, List.length_cons, List.length_nil]; omega
      have pp := own_p (p := pt) hp.1
      show G T870 (mkF m 265 #[iv q0, iv q1, iv m2, iv ca, iv cb, iv cc, iv pt, rv x811, rv x819, iv f9, rv x10, iv (Int32.ofNat N), .unset] [])
      rcases own_pr hp with hp | hp | hp | hp | hp
      ·
        refine hG.st (fun _ q => XS.iload S870.here hx rfl (hb hby at_265) rfl (XS.sipush S870.here hx rfl (hb hby at_267) (XS.icmpYes S870.here hx rfl (pc0 := 270) (pc' := 277) rfl (hb hby at_270) rfl (tlt ((by rw [Int32.lt_iff_toInt_lt, show (10000 : Int32).toInt = 10000 from by decide]; omega) : pt < (10000 : Int32))).1 (by decide) (by decide) (XS.iload S870.here hx rfl (hb hby at_277) rfl (XS.sipush S870.here hx rfl (hb hby at_279) (XS.icmpYes S870.here hx rfl (pc0 := 282) (pc' := 289) rfl (hb hby at_282) rfl (tlt ((by rw [Int32.lt_iff_toInt_lt, show (1000 : Int32).toInt = 1000 from by decide]; omega) : pt < (1000 : Int32))).1 (by decide) (by decide) q)))))) ?_
        show G T870 (mkF m 289 #[iv q0, iv q1, iv m2, iv ca, iv cb, iv cc, iv pt, rv x811, rv x819, iv f9, rv x10, iv (Int32.ofNat N), .unset] [])
        refine hG.st (fun _ q => XS.iload S870.here hx rfl (hb hby at_289) rfl (XS.bipush S870.here hx rfl (hb hby at_291) (XS.icmpYes S870.here hx rfl (pc0 := 293) (pc' := 300) rfl (hb hby at_293) rfl (tlt ((by rw [Int32.lt_iff_toInt_lt, show (100 : Int32).toInt = 100 from by decide]; omega) : pt < (100 : Int32))).1 (by decide) (by decide) (XS.iload S870.here hx rfl (hb hby at_300) rfl (XS.bipush S870.here hx rfl (hb hby at_302) (XS.icmpYes S870.here hx rfl (pc0 := 304) (pc' := 311) rfl (hb hby at_304) rfl (tlt ((by rw [Int32.lt_iff_toInt_lt, show (10 : Int32).toInt = 10 from by decide]; omega) : pt < (10 : Int32))).1 (by decide) (by decide) q)))))) ?_
        show G T870 (mkF m 311 #[iv q0, iv q1, iv m2, iv ca, iv cb, iv cc, iv pt, rv x811, rv x819, iv f9, rv x10, iv (Int32.ofNat N), .unset] [])
        refine hG.st (fun _ q => XS.iconst S870.here hx rfl (hb hby at_311) (XS.istore S870.here hx rfl (hb hby at_312) rfl (l' := #[iv q0, iv q1, iv m2, iv ca, iv cb, iv cc, iv pt, rv x811, rv x819, iv f9, rv x10, iv (Int32.ofNat N), iv 1]) rfl (XS.iload S870.here hx rfl (hb hby at_314) rfl (XS.iconst S870.here hx rfl (hb hby at_316) (XS.icmpYes S870.here hx rfl (pc0 := 317) (pc' := 341) rfl (hb hby at_317) rfl (tlt (by decide : (1 : Int32) < (5 : Int32))).1 (by decide) (by decide) (XS.iload S870.here hx rfl (hb hby at_341) rfl q)))))) ?_
        show G T870 (mkF m 343 #[iv q0, iv q1, iv m2, iv ca, iv cb, iv cc, iv pt, rv x811, rv x819, iv f9, rv x10, iv (Int32.ofNat N), iv 1] [(.int 1)])
        refine hG.st (fun _ q => XS.iconst S870.here hx rfl (hb hby at_343) (XS.icmpYes S870.here hx rfl (pc0 := 344) (pc' := 371) rfl (hb hby at_344) rfl (tlt (by decide : (1 : Int32) < (4 : Int32))).1 (by decide) (by decide) (XS.iload S870.here hx rfl (hb hby at_371) rfl (XS.iconst S870.here hx rfl (hb hby at_373) (XS.icmpYes S870.here hx rfl (pc0 := 374) (pc' := 400) rfl (hb hby at_374) rfl (tlt (by decide : (1 : Int32) < (3 : Int32))).1 (by decide) (by decide) (XS.iload S870.here hx rfl (hb hby at_400) rfl q)))))) ?_
        show G T870 (mkF m 402 #[iv q0, iv q1, iv m2, iv ca, iv cb, iv cc, iv pt, rv x811, rv x819, iv f9, rv x10, iv (Int32.ofNat N), iv 1] [(.int 1)])
        refine hG.st (fun _ q => XS.iconst S870.here hx rfl (hb hby at_402) (XS.icmpYes S870.here hx rfl (pc0 := 403) (pc' := 429) rfl (hb hby at_403) rfl (tlt (by decide : (1 : Int32) < (2 : Int32))).1 (by decide) (by decide) (XS.aload S870.here hx rfl (hb hby at_429) rfl rfl (XS.iload S870.here hx rfl (hb hby at_431) rfl (XS.bipush S870.here hx rfl (hb hby at_433) (XS.iload S870.here hx rfl (hb hby at_435) rfl q)))))) ?_
        show G T870 (mkF m 437 #[iv q0, iv q1, iv m2, iv ca, iv cb, iv cc, iv pt, rv x811, rv x819, iv f9, rv x10, iv (Int32.ofNat N), iv 1] [(.int pt), (.int 48), (.int (Int32.ofNat N)), (.ref x10)])
        refine hG.st (fun _ q => XS.bipush S870.here hx rfl (hb hby at_437) (Own.irem S870.here hx rfl (hb hby at_439) rfl (by decide) (XS.iadd S870.here hx rfl (hb hby at_440) rfl (XS.i2c S870.here hx rfl (hb hby at_441) rfl q)))) ?_
        show G T870 (mkF m 442 #[iv q0, iv q1, iv m2, iv ca, iv cb, iv cc, iv pt, rv x811, rv x819, iv f9, rv x10, iv (Int32.ofNat N), iv 1] [(.int (((48 : Int32) + (pt % (10 : Int32))).toUInt32.toUInt16.toUInt32.toInt32)), (.int (Int32.ofNat N)), (.ref x10)])
        refine Own.Sit.stC hG S870 hx A10 ga10 (own_idc (by omega)) (N) (own_tn (by omega)) (by rw [List.length_map, hes]; omega) rfl rfl (hb hby at_442) (fun T871 h871 S871 J871 V871 => ?_)
        rw [own_cd (by rw [pp.1]; omega) (by rw [pp.1]; omega), ← List.map_set] at V871
        have hes871 : (es.set (N) ((48 : Int32) + (pt % 10))).length = 11 := by rw [List.length_set]; exact hes
        have ht871 : (es.set (N) ((48 : Int32) + (pt % 10))).take (N + 1) = (own_host cs811 ++ [58]) ++ [(48 : Int32) + (pt % 10)] := own_push hes (by exact hN) (by omega) ht
        refine hG.st (fun _ q => XS.iload S871.here hx rfl (hb hby at_443) rfl (XS.iconst S871.here hx rfl (hb hby at_445) (XS.iadd S871.here hx rfl (hb hby at_446) rfl (XS.istore S871.here hx rfl (hb hby at_447) rfl (l' := #[iv q0, iv q1, iv m2, iv ca, iv cb, iv cc, iv pt, rv x811, rv x819, iv f9, rv x10, iv ((Int32.ofNat N) + (1 : Int32)), iv 1]) rfl q)))) ?_
        show G T871 (mkF m 449 #[iv q0, iv q1, iv m2, iv ca, iv cb, iv cc, iv pt, rv x811, rv x819, iv f9, rv x10, iv ((Int32.ofNat N) + (1 : Int32)), iv 1] [])
        rw [show (Int32.ofNat N) + (1 : Int32) = Int32.ofNat (N + 1) from own_addn N 1]
        show G T871 (mkF m 449 #[iv q0, iv q1, iv m2, iv ca, iv cb, iv cc, iv pt, rv x811, rv x819, iv f9, rv x10, iv (Int32.ofNat (N + 1)), iv 1] [])
        have ho872 : N + 1 = ((own_host cs811 ++ [58]) ++ own_dig pt).length := by rw [own_dE1 hp, List.length_append, ← hN]; rfl
        have hq873 : (es.set (N) ((48 : Int32) + (pt % 10))).take ((own_host cs811 ++ [58]) ++ own_dig pt).length = ((own_host cs811 ++ [58]) ++ own_dig pt) := by
          rw [← ho872]
          have q := ht871
          rw [own_dE1 hp]
          simpa [own_dig1] using q
        rw [ho872]
        have J874 : Own.Stp Z consts_1 vm819 h819 vm870 h871 [] := Own.Stp.trans J870 J871 (all0) (allS (Or.inr u10) all0)
        exact JE vm870 T871 h871 m2 f9 x10 k10 (es.set (N) ((48 : Int32) + (pt % 10))) (1 : Int32) (S871.mono (by decide) (by decide)) J874 V871 hes871 hq873
      ·
        refine hG.st (fun _ q => XS.iload S870.here hx rfl (hb hby at_265) rfl (XS.sipush S870.here hx rfl (hb hby at_267) (XS.icmpYes S870.here hx rfl (pc0 := 270) (pc' := 277) rfl (hb hby at_270) rfl (tlt ((by rw [Int32.lt_iff_toInt_lt, show (10000 : Int32).toInt = 10000 from by decide]; omega) : pt < (10000 : Int32))).1 (by decide) (by decide) (XS.iload S870.here hx rfl (hb hby at_277) rfl (XS.sipush S870.here hx rfl (hb hby at_279) (XS.icmpYes S870.here hx rfl (pc0 := 282) (pc' := 289) rfl (hb hby at_282) rfl (tlt ((by rw [Int32.lt_iff_toInt_lt, show (1000 : Int32).toInt = 1000 from by decide]; omega) : pt < (1000 : Int32))).1 (by decide) (by decide) q)))))) ?_
        show G T870 (mkF m 289 #[iv q0, iv q1, iv m2, iv ca, iv cb, iv cc, iv pt, rv x811, rv x819, iv f9, rv x10, iv (Int32.ofNat N), .unset] [])
        refine hG.st (fun _ q => XS.iload S870.here hx rfl (hb hby at_289) rfl (XS.bipush S870.here hx rfl (hb hby at_291) (XS.icmpYes S870.here hx rfl (pc0 := 293) (pc' := 300) rfl (hb hby at_293) rfl (tlt ((by rw [Int32.lt_iff_toInt_lt, show (100 : Int32).toInt = 100 from by decide]; omega) : pt < (100 : Int32))).1 (by decide) (by decide) (XS.iload S870.here hx rfl (hb hby at_300) rfl (XS.bipush S870.here hx rfl (hb hby at_302) (XS.icmpNo S870.here hx rfl (hb hby at_304) rfl (flt ((by rw [Int32.lt_iff_toInt_lt, show (10 : Int32).toInt = 10 from by decide]; omega) : ¬ (pt < (10 : Int32)))).1 q)))))) ?_
        show G T870 (mkF m 307 #[iv q0, iv q1, iv m2, iv ca, iv cb, iv cc, iv pt, rv x811, rv x819, iv f9, rv x10, iv (Int32.ofNat N), .unset] [])
        refine hG.st (fun _ q => XS.iconst S870.here hx rfl (hb hby at_307) (XS.goto S870.here hx rfl (pc0 := 308) (pc' := 312) rfl (hb hby at_308) (by decide) (by decide) (XS.istore S870.here hx rfl (hb hby at_312) rfl (l' := #[iv q0, iv q1, iv m2, iv ca, iv cb, iv cc, iv pt, rv x811, rv x819, iv f9, rv x10, iv (Int32.ofNat N), iv 2]) rfl (XS.iload S870.here hx rfl (hb hby at_314) rfl (XS.iconst S870.here hx rfl (hb hby at_316) (XS.icmpYes S870.here hx rfl (pc0 := 317) (pc' := 341) rfl (hb hby at_317) rfl (tlt (by decide : (2 : Int32) < (5 : Int32))).1 (by decide) (by decide) q)))))) ?_
        show G T870 (mkF m 341 #[iv q0, iv q1, iv m2, iv ca, iv cb, iv cc, iv pt, rv x811, rv x819, iv f9, rv x10, iv (Int32.ofNat N), iv 2] [])
        refine hG.st (fun _ q => XS.iload S870.here hx rfl (hb hby at_341) rfl (XS.iconst S870.here hx rfl (hb hby at_343) (XS.icmpYes S870.here hx rfl (pc0 := 344) (pc' := 371) rfl (hb hby at_344) rfl (tlt (by decide : (2 : Int32) < (4 : Int32))).1 (by decide) (by decide) (XS.iload S870.here hx rfl (hb hby at_371) rfl (XS.iconst S870.here hx rfl (hb hby at_373) (XS.icmpYes S870.here hx rfl (pc0 := 374) (pc' := 400) rfl (hb hby at_374) rfl (tlt (by decide : (2 : Int32) < (3 : Int32))).1 (by decide) (by decide) q)))))) ?_
        show G T870 (mkF m 400 #[iv q0, iv q1, iv m2, iv ca, iv cb, iv cc, iv pt, rv x811, rv x819, iv f9, rv x10, iv (Int32.ofNat N), iv 2] [])
        refine hG.st (fun _ q => XS.iload S870.here hx rfl (hb hby at_400) rfl (XS.iconst S870.here hx rfl (hb hby at_402) (XS.icmpNo S870.here hx rfl (hb hby at_403) rfl (flt (by decide : ¬ ((2 : Int32) < (2 : Int32)))).1 (XS.aload S870.here hx rfl (hb hby at_406) rfl rfl (XS.iload S870.here hx rfl (hb hby at_408) rfl (XS.bipush S870.here hx rfl (hb hby at_410) q)))))) ?_
        show G T870 (mkF m 412 #[iv q0, iv q1, iv m2, iv ca, iv cb, iv cc, iv pt, rv x811, rv x819, iv f9, rv x10, iv (Int32.ofNat N), iv 2] [(.int 48), (.int (Int32.ofNat N)), (.ref x10)])
        refine hG.st (fun _ q => XS.iload S870.here hx rfl (hb hby at_412) rfl (XS.bipush S870.here hx rfl (hb hby at_414) (XS.idiv S870.here hx rfl (hb hby at_416) rfl (by decide) (XS.bipush S870.here hx rfl (hb hby at_417) (Own.irem S870.here hx rfl (hb hby at_419) rfl (by decide) (XS.iadd S870.here hx rfl (hb hby at_420) rfl q)))))) ?_
        show G T870 (mkF m 421 #[iv q0, iv q1, iv m2, iv ca, iv cb, iv cc, iv pt, rv x811, rv x819, iv f9, rv x10, iv (Int32.ofNat N), iv 2] [(.int ((48 : Int32) + ((pt / (10 : Int32)) % (10 : Int32)))), (.int (Int32.ofNat N)), (.ref x10)])
        refine hG.st (fun _ q => XS.i2c S870.here hx rfl (hb hby at_421) rfl q) ?_
        show G T870 (mkF m 422 #[iv q0, iv q1, iv m2, iv ca, iv cb, iv cc, iv pt, rv x811, rv x819, iv f9, rv x10, iv (Int32.ofNat N), iv 2] [(.int (((48 : Int32) + ((pt / (10 : Int32)) % (10 : Int32))).toUInt32.toUInt16.toUInt32.toInt32)), (.int (Int32.ofNat N)), (.ref x10)])
        refine Own.Sit.stC hG S870 hx A10 ga10 (own_idc (by omega)) (N) (own_tn (by omega)) (by rw [List.length_map, hes]; omega) rfl rfl (hb hby at_422) (fun T875 h875 S875 J875 V875 => ?_)
        rw [own_cd (by rw [pp.2.1]; omega) (by rw [pp.2.1]; omega), ← List.map_set] at V875
        have hes875 : (es.set (N) ((48 : Int32) + (pt / 10 % 10))).length = 11 := by rw [List.length_set]; exact hes
        have ht875 : (es.set (N) ((48 : Int32) + (pt / 10 % 10))).take (N + 1) = (own_host cs811 ++ [58]) ++ [(48 : Int32) + (pt / 10 % 10)] := own_push hes (by exact hN) (by omega) ht
        refine hG.st (fun _ q => XS.iload S875.here hx rfl (hb hby at_423) rfl (XS.iconst S875.here hx rfl (hb hby at_425) (XS.iadd S875.here hx rfl (hb hby at_426) rfl (XS.istore S875.here hx rfl (hb hby at_427) rfl (l' := #[iv q0, iv q1, iv m2, iv ca, iv cb, iv cc, iv pt, rv x811, rv x819, iv f9, rv x10, iv ((Int32.ofNat N) + (1 : Int32)), iv 2]) rfl q)))) ?_
        show G T875 (mkF m 429 #[iv q0, iv q1, iv m2, iv ca, iv cb, iv cc, iv pt, rv x811, rv x819, iv f9, rv x10, iv ((Int32.ofNat N) + (1 : Int32)), iv 2] [])
        rw [show (Int32.ofNat N) + (1 : Int32) = Int32.ofNat (N + 1) from own_addn N 1]
        show G T875 (mkF m 429 #[iv q0, iv q1, iv m2, iv ca, iv cb, iv cc, iv pt, rv x811, rv x819, iv f9, rv x10, iv (Int32.ofNat (N + 1)), iv 2] [])
        refine hG.st (fun _ q => XS.aload S875.here hx rfl (hb hby at_429) rfl rfl (XS.iload S875.here hx rfl (hb hby at_431) rfl (XS.bipush S875.here hx rfl (hb hby at_433) (XS.iload S875.here hx rfl (hb hby at_435) rfl (XS.bipush S875.here hx rfl (hb hby at_437) (Own.irem S875.here hx rfl (hb hby at_439) rfl (by decide) q)))))) ?_
        show G T875 (mkF m 440 #[iv q0, iv q1, iv m2, iv ca, iv cb, iv cc, iv pt, rv x811, rv x819, iv f9, rv x10, iv (Int32.ofNat (N + 1)), iv 2] [(.int (pt % (10 : Int32))), (.int 48), (.int (Int32.ofNat (N + 1))), (.ref x10)])
        refine hG.st (fun _ q => XS.iadd S875.here hx rfl (hb hby at_440) rfl (XS.i2c S875.here hx rfl (hb hby at_441) rfl q)) ?_
        show G T875 (mkF m 442 #[iv q0, iv q1, iv m2, iv ca, iv cb, iv cc, iv pt, rv x811, rv x819, iv f9, rv x10, iv (Int32.ofNat (N + 1)), iv 2] [(.int (((48 : Int32) + (pt % (10 : Int32))).toUInt32.toUInt16.toUInt32.toInt32)), (.int (Int32.ofNat (N + 1))), (.ref x10)])
        refine Own.Sit.stC hG S875 hx V875 ga10 (own_idc (by omega)) (N + 1) (own_tn (by omega)) (by rw [List.length_map, hes875]; omega) rfl rfl (hb hby at_442) (fun T876 h876 S876 J876 V876 => ?_)
        rw [own_cd (by rw [pp.1]; omega) (by rw [pp.1]; omega), ← List.map_set] at V876
        have hes876 : ((es.set (N) ((48 : Int32) + (pt / 10 % 10))).set (N + 1) ((48 : Int32) + (pt % 10))).length = 11 := by rw [List.length_set]; exact hes875
        have ht876 : ((es.set (N) ((48 : Int32) + (pt / 10 % 10))).set (N + 1) ((48 : Int32) + (pt % 10))).take (N + 1 + 1) = ((own_host cs811 ++ [58]) ++ [(48 : Int32) + (pt / 10 % 10)]) ++ [(48 : Int32) + (pt % 10)] := own_push hes875 (by simp only [List.length_append, List.length_cons, List.length_nil]; rw [hN]; simp only [List.length_append, List.length_cons, List.length_nil]) (by omega) ht875
        refine hG.st (fun _ q => XS.iload S876.here hx rfl (hb hby at_443) rfl (XS.iconst S876.here hx rfl (hb hby at_445) (XS.iadd S876.here hx rfl (hb hby at_446) rfl (XS.istore S876.here hx rfl (hb hby at_447) rfl (l' := #[iv q0, iv q1, iv m2, iv ca, iv cb, iv cc, iv pt, rv x811, rv x819, iv f9, rv x10, iv ((Int32.ofNat (N + 1)) + (1 : Int32)), iv 2]) rfl q)))) ?_
        show G T876 (mkF m 449 #[iv q0, iv q1, iv m2, iv ca, iv cb, iv cc, iv pt, rv x811, rv x819, iv f9, rv x10, iv ((Int32.ofNat (N + 1)) + (1 : Int32)), iv 2] [])
        rw [show (Int32.ofNat (N + 1)) + (1 : Int32) = Int32.ofNat (N + 2) from own_addn (N + 1) 1]
        show G T876 (mkF m 449 #[iv q0, iv q1, iv m2, iv ca, iv cb, iv cc, iv pt, rv x811, rv x819, iv f9, rv x10, iv (Int32.ofNat (N + 2)), iv 2] [])
        have ho877 : N + 2 = ((own_host cs811 ++ [58]) ++ own_dig pt).length := by rw [own_dE2 hp, List.length_append, ← hN]; rfl
        have hq878 : ((es.set (N) ((48 : Int32) + (pt / 10 % 10))).set (N + 1) ((48 : Int32) + (pt % 10))).take ((own_host cs811 ++ [58]) ++ own_dig pt).length = ((own_host cs811 ++ [58]) ++ own_dig pt) := by
          rw [← ho877]
          have q := ht876
          rw [own_dE2 hp]
          simpa [own_dig2] using q
        rw [ho877]
        have J879 : Own.Stp Z consts_1 vm819 h819 vm870 h875 [] := Own.Stp.trans J870 J875 (all0) (allS (Or.inr u10) all0)
        have J880 : Own.Stp Z consts_1 vm819 h819 vm870 h876 [] := Own.Stp.trans J879 J876 (all0) (allS (Or.inr u10) all0)
        exact JE vm870 T876 h876 m2 f9 x10 k10 ((es.set (N) ((48 : Int32) + (pt / 10 % 10))).set (N + 1) ((48 : Int32) + (pt % 10))) (2 : Int32) (S876.mono (by decide) (by decide)) J880 V876 hes876 hq878
      ·
        refine hG.st (fun _ q => XS.iload S870.here hx rfl (hb hby at_265) rfl (XS.sipush S870.here hx rfl (hb hby at_267) (XS.icmpYes S870.here hx rfl (pc0 := 270) (pc' := 277) rfl (hb hby at_270) rfl (tlt ((by rw [Int32.lt_iff_toInt_lt, show (10000 : Int32).toInt = 10000 from by decide]; omega) : pt < (10000 : Int32))).1 (by decide) (by decide) (XS.iload S870.here hx rfl (hb hby at_277) rfl (XS.sipush S870.here hx rfl (hb hby at_279) (XS.icmpYes S870.here hx rfl (pc0 := 282) (pc' := 289) rfl (hb hby at_282) rfl (tlt ((by rw [Int32.lt_iff_toInt_lt, show (1000 : Int32).toInt = 1000 from by decide]; omega) : pt < (1000 : Int32))).1 (by decide) (by decide) q)))))) ?_
        show G T870 (mkF m 289 #[iv q0, iv q1, iv m2, iv ca, iv cb, iv cc, iv pt, rv x811, rv x819, iv f9, rv x10, iv (Int32.ofNat N), .unset] [])
        refine hG.st (fun _ q => XS.iload S870.here hx rfl (hb hby at_289) rfl (XS.bipush S870.here hx rfl (hb hby at_291) (XS.icmpNo S870.here hx rfl (hb hby at_293) rfl (flt ((by rw [Int32.lt_iff_toInt_lt, show (100 : Int32).toInt = 100 from by decide]; omega) : ¬ (pt < (100 : Int32)))).1 (XS.iconst S870.here hx rfl (hb hby at_296) (XS.goto S870.here hx rfl (pc0 := 297) (pc' := 312) rfl (hb hby at_297) (by decide) (by decide) (XS.istore S870.here hx rfl (hb hby at_312) rfl (l' := #[iv q0, iv q1, iv m2, iv ca, iv cb, iv cc, iv pt, rv x811, rv x819, iv f9, rv x10, iv (Int32.ofNat N), iv 3]) rfl q)))))) ?_
        show G T870 (mkF m 314 #[iv q0, iv q1, iv m2, iv ca, iv cb, iv cc, iv pt, rv x811, rv x819, iv f9, rv x10, iv (Int32.ofNat N), iv 3] [])
        refine hG.st (fun _ q => XS.iload S870.here hx rfl (hb hby at_314) rfl (XS.iconst S870.here hx rfl (hb hby at_316) (XS.icmpYes S870.here hx rfl (pc0 := 317) (pc' := 341) rfl (hb hby at_317) rfl (tlt (by decide : (3 : Int32) < (5 : Int32))).1 (by decide) (by decide) (XS.iload S870.here hx rfl (hb hby at_341) rfl (XS.iconst S870.here hx rfl (hb hby at_343) (XS.icmpYes S870.here hx rfl (pc0 := 344) (pc' := 371) rfl (hb hby at_344) rfl (tlt (by decide : (3 : Int32) < (4 : Int32))).1 (by decide) (by decide) q)))))) ?_
        show G T870 (mkF m 371 #[iv q0, iv q1, iv m2, iv ca, iv cb, iv cc, iv pt, rv x811, rv x819, iv f9, rv x10, iv (Int32.ofNat N), iv 3] [])
        refine hG.st (fun _ q => XS.iload S870.here hx rfl (hb hby at_371) rfl (XS.iconst S870.here hx rfl (hb hby at_373) (XS.icmpNo S870.here hx rfl (hb hby at_374) rfl (flt (by decide : ¬ ((3 : Int32) < (3 : Int32)))).1 (XS.aload S870.here hx rfl (hb hby at_377) rfl rfl (XS.iload S870.here hx rfl (hb hby at_379) rfl (XS.bipush S870.here hx rfl (hb hby at_381) q)))))) ?_
        show G T870 (mkF m 383 #[iv q0, iv q1, iv m2, iv ca, iv cb, iv cc, iv pt, rv x811, rv x819, iv f9, rv x10, iv (Int32.ofNat N), iv 3] [(.int 48), (.int (Int32.ofNat N)), (.ref x10)])
        refine hG.st (fun _ q => XS.iload S870.here hx rfl (hb hby at_383) rfl (XS.bipush S870.here hx rfl (hb hby at_385) (XS.idiv S870.here hx rfl (hb hby at_387) rfl (by decide) (XS.bipush S870.here hx rfl (hb hby at_388) (Own.irem S870.here hx rfl (hb hby at_390) rfl (by decide) (XS.iadd S870.here hx rfl (hb hby at_391) rfl q)))))) ?_
        show G T870 (mkF m 392 #[iv q0, iv q1, iv m2, iv ca, iv cb, iv cc, iv pt, rv x811, rv x819, iv f9, rv x10, iv (Int32.ofNat N), iv 3] [(.int ((48 : Int32) + ((pt / (100 : Int32)) % (10 : Int32)))), (.int (Int32.ofNat N)), (.ref x10)])
        refine hG.st (fun _ q => XS.i2c S870.here hx rfl (hb hby at_392) rfl q) ?_
        show G T870 (mkF m 393 #[iv q0, iv q1, iv m2, iv ca, iv cb, iv cc, iv pt, rv x811, rv x819, iv f9, rv x10, iv (Int32.ofNat N), iv 3] [(.int (((48 : Int32) + ((pt / (100 : Int32)) % (10 : Int32))).toUInt32.toUInt16.toUInt32.toInt32)), (.int (Int32.ofNat N)), (.ref x10)])
        refine Own.Sit.stC hG S870 hx A10 ga10 (own_idc (by omega)) (N) (own_tn (by omega)) (by rw [List.length_map, hes]; omega) rfl rfl (hb hby at_393) (fun T881 h881 S881 J881 V881 => ?_)
        rw [own_cd (by rw [pp.2.2.1]; omega) (by rw [pp.2.2.1]; omega), ← List.map_set] at V881
        have hes881 : (es.set (N) ((48 : Int32) + (pt / 100 % 10))).length = 11 := by rw [List.length_set]; exact hes
        have ht881 : (es.set (N) ((48 : Int32) + (pt / 100 % 10))).take (N + 1) = (own_host cs811 ++ [58]) ++ [(48 : Int32) + (pt / 100 % 10)] := own_push hes (by exact hN) (by omega) ht
        refine hG.st (fun _ q => XS.iload S881.here hx rfl (hb hby at_394) rfl (XS.iconst S881.here hx rfl (hb hby at_396) (XS.iadd S881.here hx rfl (hb hby at_397) rfl (XS.istore S881.here hx rfl (hb hby at_398) rfl (l' := #[iv q0, iv q1, iv m2, iv ca, iv cb, iv cc, iv pt, rv x811, rv x819, iv f9, rv x10, iv ((Int32.ofNat N) + (1 : Int32)), iv 3]) rfl q)))) ?_
        show G T881 (mkF m 400 #[iv q0, iv q1, iv m2, iv ca, iv cb, iv cc, iv pt, rv x811, rv x819, iv f9, rv x10, iv ((Int32.ofNat N) + (1 : Int32)), iv 3] [])
        rw [show (Int32.ofNat N) + (1 : Int32) = Int32.ofNat (N + 1) from own_addn N 1]
        show G T881 (mkF m 400 #[iv q0, iv q1, iv m2, iv ca, iv cb, iv cc, iv pt, rv x811, rv x819, iv f9, rv x10, iv (Int32.ofNat (N + 1)), iv 3] [])
        refine hG.st (fun _ q => XS.iload S881.here hx rfl (hb hby at_400) rfl (XS.iconst S881.here hx rfl (hb hby at_402) (XS.icmpNo S881.here hx rfl (hb hby at_403) rfl (flt (by decide : ¬ ((3 : Int32) < (2 : Int32)))).1 (XS.aload S881.here hx rfl (hb hby at_406) rfl rfl (XS.iload S881.here hx rfl (hb hby at_408) rfl (XS.bipush S881.here hx rfl (hb hby at_410) q)))))) ?_
        show G T881 (mkF m 412 #[iv q0, iv q1, iv m2, iv ca, iv cb, iv cc, iv pt, rv x811, rv x819, iv f9, rv x10, iv (Int32.ofNat (N + 1)), iv 3] [(.int 48), (.int (Int32.ofNat (N + 1))), (.ref x10)])
        refine hG.st (fun _ q => XS.iload S881.here hx rfl (hb hby at_412) rfl (XS.bipush S881.here hx rfl (hb hby at_414) (XS.idiv S881.here hx rfl (hb hby at_416) rfl (by decide) (XS.bipush S881.here hx rfl (hb hby at_417) (Own.irem S881.here hx rfl (hb hby at_419) rfl (by decide) (XS.iadd S881.here hx rfl (hb hby at_420) rfl q)))))) ?_
        show G T881 (mkF m 421 #[iv q0, iv q1, iv m2, iv ca, iv cb, iv cc, iv pt, rv x811, rv x819, iv f9, rv x10, iv (Int32.ofNat (N + 1)), iv 3] [(.int ((48 : Int32) + ((pt / (10 : Int32)) % (10 : Int32)))), (.int (Int32.ofNat (N + 1))), (.ref x10)])
        refine hG.st (fun _ q => XS.i2c S881.here hx rfl (hb hby at_421) rfl q) ?_
        show G T881 (mkF m 422 #[iv q0, iv q1, iv m2, iv ca, iv cb, iv cc, iv pt, rv x811, rv x819, iv f9, rv x10, iv (Int32.ofNat (N + 1)), iv 3] [(.int (((48 : Int32) + ((pt / (10 : Int32)) % (10 : Int32))).toUInt32.toUInt16.toUInt32.toInt32)), (.int (Int32.ofNat (N + 1))), (.ref x10)])
        refine Own.Sit.stC hG S881 hx V881 ga10 (own_idc (by omega)) (N + 1) (own_tn (by omega)) (by rw [List.length_map, hes881]; omega) rfl rfl (hb hby at_422) (fun T882 h882 S882 J882 V882 => ?_)
        rw [own_cd (by rw [pp.2.1]; omega) (by rw [pp.2.1]; omega), ← List.map_set] at V882
        have hes882 : ((es.set (N) ((48 : Int32) + (pt / 100 % 10))).set (N + 1) ((48 : Int32) + (pt / 10 % 10))).length = 11 := by rw [List.length_set]; exact hes881
        have ht882 : ((es.set (N) ((48 : Int32) + (pt / 100 % 10))).set (N + 1) ((48 : Int32) + (pt / 10 % 10))).take (N + 1 + 1) = ((own_host cs811 ++ [58]) ++ [(48 : Int32) + (pt / 100 % 10)]) ++ [(48 : Int32) + (pt / 10 % 10)] := own_push hes881 (by simp only [List.length_append, List.length_cons, List.length_nil]; rw [hN]; simp only [List.length_append, List.length_cons, List.length_nil]) (by omega) ht881
        refine hG.st (fun _ q => XS.iload S882.here hx rfl (hb hby at_423) rfl (XS.iconst S882.here hx rfl (hb hby at_425) (XS.iadd S882.here hx rfl (hb hby at_426) rfl (XS.istore S882.here hx rfl (hb hby at_427) rfl (l' := #[iv q0, iv q1, iv m2, iv ca, iv cb, iv cc, iv pt, rv x811, rv x819, iv f9, rv x10, iv ((Int32.ofNat (N + 1)) + (1 : Int32)), iv 3]) rfl q)))) ?_
        show G T882 (mkF m 429 #[iv q0, iv q1, iv m2, iv ca, iv cb, iv cc, iv pt, rv x811, rv x819, iv f9, rv x10, iv ((Int32.ofNat (N + 1)) + (1 : Int32)), iv 3] [])
        rw [show (Int32.ofNat (N + 1)) + (1 : Int32) = Int32.ofNat (N + 2) from own_addn (N + 1) 1]
        show G T882 (mkF m 429 #[iv q0, iv q1, iv m2, iv ca, iv cb, iv cc, iv pt, rv x811, rv x819, iv f9, rv x10, iv (Int32.ofNat (N + 2)), iv 3] [])
        refine hG.st (fun _ q => XS.aload S882.here hx rfl (hb hby at_429) rfl rfl (XS.iload S882.here hx rfl (hb hby at_431) rfl (XS.bipush S882.here hx rfl (hb hby at_433) (XS.iload S882.here hx rfl (hb hby at_435) rfl (XS.bipush S882.here hx rfl (hb hby at_437) (Own.irem S882.here hx rfl (hb hby at_439) rfl (by decide) q)))))) ?_
        show G T882 (mkF m 440 #[iv q0, iv q1, iv m2, iv ca, iv cb, iv cc, iv pt, rv x811, rv x819, iv f9, rv x10, iv (Int32.ofNat (N + 2)), iv 3] [(.int (pt % (10 : Int32))), (.int 48), (.int (Int32.ofNat (N + 2))), (.ref x10)])
        refine hG.st (fun _ q => XS.iadd S882.here hx rfl (hb hby at_440) rfl (XS.i2c S882.here hx rfl (hb hby at_441) rfl q)) ?_
        show G T882 (mkF m 442 #[iv q0, iv q1, iv m2, iv ca, iv cb, iv cc, iv pt, rv x811, rv x819, iv f9, rv x10, iv (Int32.ofNat (N + 2)), iv 3] [(.int (((48 : Int32) + (pt % (10 : Int32))).toUInt32.toUInt16.toUInt32.toInt32)), (.int (Int32.ofNat (N + 2))), (.ref x10)])
        refine Own.Sit.stC hG S882 hx V882 ga10 (own_idc (by omega)) (N + 2) (own_tn (by omega)) (by rw [List.length_map, hes882]; omega) rfl rfl (hb hby at_442) (fun T883 h883 S883 J883 V883 => ?_)
        rw [own_cd (by rw [pp.1]; omega) (by rw [pp.1]; omega), ← List.map_set] at V883
        have hes883 : (((es.set (N) ((48 : Int32) + (pt / 100 % 10))).set (N + 1) ((48 : Int32) + (pt / 10 % 10))).set (N + 2) ((48 : Int32) + (pt % 10))).length = 11 := by rw [List.length_set]; exact hes882
        have ht883 : (((es.set (N) ((48 : Int32) + (pt / 100 % 10))).set (N + 1) ((48 : Int32) + (pt / 10 % 10))).set (N + 2) ((48 : Int32) + (pt % 10))).take (N + 2 + 1) = (((own_host cs811 ++ [58]) ++ [(48 : Int32) + (pt / 100 % 10)]) ++ [(48 : Int32) + (pt / 10 % 10)]) ++ [(48 : Int32) + (pt % 10)] := own_push hes882 (by simp only [List.length_append, List.length_cons, List.length_nil]; rw [hN]; simp only [List.length_append, List.length_cons, List.length_nil]) (by omega) ht882
        refine hG.st (fun _ q => XS.iload S883.here hx rfl (hb hby at_443) rfl (XS.iconst S883.here hx rfl (hb hby at_445) (XS.iadd S883.here hx rfl (hb hby at_446) rfl (XS.istore S883.here hx rfl (hb hby at_447) rfl (l' := #[iv q0, iv q1, iv m2, iv ca, iv cb, iv cc, iv pt, rv x811, rv x819, iv f9, rv x10, iv ((Int32.ofNat (N + 2)) + (1 : Int32)), iv 3]) rfl q)))) ?_
        show G T883 (mkF m 449 #[iv q0, iv q1, iv m2, iv ca, iv cb, iv cc, iv pt, rv x811, rv x819, iv f9, rv x10, iv ((Int32.ofNat (N + 2)) + (1 : Int32)), iv 3] [])
        rw [show (Int32.ofNat (N + 2)) + (1 : Int32) = Int32.ofNat (N + 3) from own_addn (N + 2) 1]
        show G T883 (mkF m 449 #[iv q0, iv q1, iv m2, iv ca, iv cb, iv cc, iv pt, rv x811, rv x819, iv f9, rv x10, iv (Int32.ofNat (N + 3)), iv 3] [])
        have ho884 : N + 3 = ((own_host cs811 ++ [58]) ++ own_dig pt).length := by rw [own_dE3 hp, List.length_append, ← hN]; rfl
        have hq885 : (((es.set (N) ((48 : Int32) + (pt / 100 % 10))).set (N + 1) ((48 : Int32) + (pt / 10 % 10))).set (N + 2) ((48 : Int32) + (pt % 10))).take ((own_host cs811 ++ [58]) ++ own_dig pt).length = ((own_host cs811 ++ [58]) ++ own_dig pt) := by
          rw [← ho884]
          have q := ht883
          rw [own_dE3 hp]
          simpa [own_dig3] using q
        rw [ho884]
        have J886 : Own.Stp Z consts_1 vm819 h819 vm870 h881 [] := Own.Stp.trans J870 J881 (all0) (allS (Or.inr u10) all0)
        have J887 : Own.Stp Z consts_1 vm819 h819 vm870 h882 [] := Own.Stp.trans J886 J882 (all0) (allS (Or.inr u10) all0)
        have J888 : Own.Stp Z consts_1 vm819 h819 vm870 h883 [] := Own.Stp.trans J887 J883 (all0) (allS (Or.inr u10) all0)
        exact JE vm870 T883 h883 m2 f9 x10 k10 (((es.set (N) ((48 : Int32) + (pt / 100 % 10))).set (N + 1) ((48 : Int32) + (pt / 10 % 10))).set (N + 2) ((48 : Int32) + (pt % 10))) (3 : Int32) (S883.mono (by decide) (by decide)) J888 V883 hes883 hq885
      ·
        refine hG.st (fun _ q => XS.iload S870.here hx rfl (hb hby at_265) rfl (XS.sipush S870.here hx rfl (hb hby at_267) (XS.icmpYes S870.here hx rfl (pc0 := 270) (pc' := 277) rfl (hb hby at_270) rfl (tlt ((by rw [Int32.lt_iff_toInt_lt, show (10000 : Int32).toInt = 10000 from by decide]; omega) : pt < (10000 : Int32))).1 (by decide) (by decide) (XS.iload S870.here hx rfl (hb hby at_277) rfl (XS.sipush S870.here hx rfl (hb hby at_279) (XS.icmpNo S870.here hx rfl (hb hby at_282) rfl (flt ((by rw [Int32.lt_iff_toInt_lt, show (1000 : Int32).toInt = 1000 from by decide]; omega) : ¬ (pt < (1000 : Int32)))).1 q)))))) ?_
        show G T870 (mkF m 285 #[iv q0, iv q1, iv m2, iv ca, iv cb, iv cc, iv pt, rv x811, rv x819, iv f9, rv x10, iv (Int32.ofNat N), .unset] [])
        refine hG.st (fun _ q => XS.iconst S870.here hx rfl (hb hby at_285) (XS.goto S870.here hx rfl (pc0 := 286) (pc' := 312) rfl (hb hby at_286) (by decide) (by decide) (XS.istore S870.here hx rfl (hb hby at_312) rfl (l' := #[iv q0, iv q1, iv m2, iv ca, iv cb, iv cc, iv pt, rv x811, rv x819, iv f9, rv x10, iv (Int32.ofNat N), iv 4]) rfl (XS.iload S870.here hx rfl (hb hby at_314) rfl (XS.iconst S870.here hx rfl (hb hby at_316) (XS.icmpYes S870.here hx rfl (pc0 := 317) (pc' := 341) rfl (hb hby at_317) rfl (tlt (by decide : (4 : Int32) < (5 : Int32))).1 (by decide) (by decide) q)))))) ?_
        show G T870 (mkF m 341 #[iv q0, iv q1, iv m2, iv ca, iv cb, iv cc, iv pt, rv x811, rv x819, iv f9, rv x10, iv (Int32.ofNat N), iv 4] [])
        refine hG.st (fun _ q => XS.iload S870.here hx rfl (hb hby at_341) rfl (XS.iconst S870.here hx rfl (hb hby at_343) (XS.icmpNo S870.here hx rfl (hb hby at_344) rfl (flt (by decide : ¬ ((4 : Int32) < (4 : Int32)))).1 (XS.aload S870.here hx rfl (hb hby at_347) rfl rfl (XS.iload S870.here hx rfl (hb hby at_349) rfl (XS.bipush S870.here hx rfl (hb hby at_351) q)))))) ?_
        show G T870 (mkF m 353 #[iv q0, iv q1, iv m2, iv ca, iv cb, iv cc, iv pt, rv x811, rv x819, iv f9, rv x10, iv (Int32.ofNat N), iv 4] [(.int 48), (.int (Int32.ofNat N)), (.ref x10)])
        refine hG.st (fun _ q => XS.iload S870.here hx rfl (hb hby at_353) rfl (XS.sipush S870.here hx rfl (hb hby at_355) (XS.idiv S870.here hx rfl (hb hby at_358) rfl (by decide) (XS.bipush S870.here hx rfl (hb hby at_359) (Own.irem S870.here hx rfl (hb hby at_361) rfl (by decide) (XS.iadd S870.here hx rfl (hb hby at_362) rfl q)))))) ?_
        show G T870 (mkF m 363 #[iv q0, iv q1, iv m2, iv ca, iv cb, iv cc, iv pt, rv x811, rv x819, iv f9, rv x10, iv (Int32.ofNat N), iv 4] [(.int ((48 : Int32) + ((pt / (1000 : Int32)) % (10 : Int32)))), (.int (Int32.ofNat N)), (.ref x10)])
        refine hG.st (fun _ q => XS.i2c S870.here hx rfl (hb hby at_363) rfl q) ?_
        show G T870 (mkF m 364 #[iv q0, iv q1, iv m2, iv ca, iv cb, iv cc, iv pt, rv x811, rv x819, iv f9, rv x10, iv (Int32.ofNat N), iv 4] [(.int (((48 : Int32) + ((pt / (1000 : Int32)) % (10 : Int32))).toUInt32.toUInt16.toUInt32.toInt32)), (.int (Int32.ofNat N)), (.ref x10)])
        refine Own.Sit.stC hG S870 hx A10 ga10 (own_idc (by omega)) (N) (own_tn (by omega)) (by rw [List.length_map, hes]; omega) rfl rfl (hb hby at_364) (fun T889 h889 S889 J889 V889 => ?_)
        rw [own_cd (by rw [pp.2.2.2.1]; omega) (by rw [pp.2.2.2.1]; omega), ← List.map_set] at V889
        have hes889 : (es.set (N) ((48 : Int32) + (pt / 1000 % 10))).length = 11 := by rw [List.length_set]; exact hes
        have ht889 : (es.set (N) ((48 : Int32) + (pt / 1000 % 10))).take (N + 1) = (own_host cs811 ++ [58]) ++ [(48 : Int32) + (pt / 1000 % 10)] := own_push hes (by exact hN) (by omega) ht
        refine hG.st (fun _ q => XS.iload S889.here hx rfl (hb hby at_365) rfl (XS.iconst S889.here hx rfl (hb hby at_367) (XS.iadd S889.here hx rfl (hb hby at_368) rfl (XS.istore S889.here hx rfl (hb hby at_369) rfl (l' := #[iv q0, iv q1, iv m2, iv ca, iv cb, iv cc, iv pt, rv x811, rv x819, iv f9, rv x10, iv ((Int32.ofNat N) + (1 : Int32)), iv 4]) rfl q)))) ?_
        show G T889 (mkF m 371 #[iv q0, iv q1, iv m2, iv ca, iv cb, iv cc, iv pt, rv x811, rv x819, iv f9, rv x10, iv ((Int32.ofNat N) + (1 : Int32)), iv 4] [])
        rw [show (Int32.ofNat N) + (1 : Int32) = Int32.ofNat (N + 1) from own_addn N 1]
        show G T889 (mkF m 371 #[iv q0, iv q1, iv m2, iv ca, iv cb, iv cc, iv pt, rv x811, rv x819, iv f9, rv x10, iv (Int32.ofNat (N + 1)), iv 4] [])
        refine hG.st (fun _ q => XS.iload S889.here hx rfl (hb hby at_371) rfl (XS.iconst S889.here hx rfl (hb hby at_373) (XS.icmpNo S889.here hx rfl (hb hby at_374) rfl (flt (by decide : ¬ ((4 : Int32) < (3 : Int32)))).1 (XS.aload S889.here hx rfl (hb hby at_377) rfl rfl (XS.iload S889.here hx rfl (hb hby at_379) rfl (XS.bipush S889.here hx rfl (hb hby at_381) q)))))) ?_
        show G T889 (mkF m 383 #[iv q0, iv q1, iv m2, iv ca, iv cb, iv cc, iv pt, rv x811, rv x819, iv f9, rv x10, iv (Int32.ofNat (N + 1)), iv 4] [(.int 48), (.int (Int32.ofNat (N + 1))), (.ref x10)])
        refine hG.st (fun _ q => XS.iload S889.here hx rfl (hb hby at_383) rfl (XS.bipush S889.here hx rfl (hb hby at_385) (XS.idiv S889.here hx rfl (hb hby at_387) rfl (by decide) (XS.bipush S889.here hx rfl (hb hby at_388) (Own.irem S889.here hx rfl (hb hby at_390) rfl (by decide) (XS.iadd S889.here hx rfl (hb hby at_391) rfl q)))))) ?_
        show G T889 (mkF m 392 #[iv q0, iv q1, iv m2, iv ca, iv cb, iv cc, iv pt, rv x811, rv x819, iv f9, rv x10, iv (Int32.ofNat (N + 1)), iv 4] [(.int ((48 : Int32) + ((pt / (100 : Int32)) % (10 : Int32)))), (.int (Int32.ofNat (N + 1))), (.ref x10)])
        refine hG.st (fun _ q => XS.i2c S889.here hx rfl (hb hby at_392) rfl q) ?_
        show G T889 (mkF m 393 #[iv q0, iv q1, iv m2, iv ca, iv cb, iv cc, iv pt, rv x811, rv x819, iv f9, rv x10, iv (Int32.ofNat (N + 1)), iv 4] [(.int (((48 : Int32) + ((pt / (100 : Int32)) % (10 : Int32))).toUInt32.toUInt16.toUInt32.toInt32)), (.int (Int32.ofNat (N + 1))), (.ref x10)])
        refine Own.Sit.stC hG S889 hx V889 ga10 (own_idc (by omega)) (N + 1) (own_tn (by omega)) (by rw [List.length_map, hes889]; omega) rfl rfl (hb hby at_393) (fun T890 h890 S890 J890 V890 => ?_)
        rw [own_cd (by rw [pp.2.2.1]; omega) (by rw [pp.2.2.1]; omega), ← List.map_set] at V890
        have hes890 : ((es.set (N) ((48 : Int32) + (pt / 1000 % 10))).set (N + 1) ((48 : Int32) + (pt / 100 % 10))).length = 11 := by rw [List.length_set]; exact hes889
        have ht890 : ((es.set (N) ((48 : Int32) + (pt / 1000 % 10))).set (N + 1) ((48 : Int32) + (pt / 100 % 10))).take (N + 1 + 1) = ((own_host cs811 ++ [58]) ++ [(48 : Int32) + (pt / 1000 % 10)]) ++ [(48 : Int32) + (pt / 100 % 10)] := own_push hes889 (by simp only [List.length_append, List.length_cons, List.length_nil]; rw [hN]; simp only [List.length_append, List.length_cons, List.length_nil]) (by omega) ht889
        refine hG.st (fun _ q => XS.iload S890.here hx rfl (hb hby at_394) rfl (XS.iconst S890.here hx rfl (hb hby at_396) (XS.iadd S890.here hx rfl (hb hby at_397) rfl (XS.istore S890.here hx rfl (hb hby at_398) rfl (l' := #[iv q0, iv q1, iv m2, iv ca, iv cb, iv cc, iv pt, rv x811, rv x819, iv f9, rv x10, iv ((Int32.ofNat (N + 1)) + (1 : Int32)), iv 4]) rfl q)))) ?_
        show G T890 (mkF m 400 #[iv q0, iv q1, iv m2, iv ca, iv cb, iv cc, iv pt, rv x811, rv x819, iv f9, rv x10, iv ((Int32.ofNat (N + 1)) + (1 : Int32)), iv 4] [])
        rw [show (Int32.ofNat (N + 1)) + (1 : Int32) = Int32.ofNat (N + 2) from own_addn (N + 1) 1]
        show G T890 (mkF m 400 #[iv q0, iv q1, iv m2, iv ca, iv cb, iv cc, iv pt, rv x811, rv x819, iv f9, rv x10, iv (Int32.ofNat (N + 2)), iv 4] [])
        refine hG.st (fun _ q => XS.iload S890.here hx rfl (hb hby at_400) rfl (XS.iconst S890.here hx rfl (hb hby at_402) (XS.icmpNo S890.here hx rfl (hb hby at_403) rfl (flt (by decide : ¬ ((4 : Int32) < (2 : Int32)))).1 (XS.aload S890.here hx rfl (hb hby at_406) rfl rfl (XS.iload S890.here hx rfl (hb hby at_408) rfl (XS.bipush S890.here hx rfl (hb hby at_410) q)))))) ?_
        show G T890 (mkF m 412 #[iv q0, iv q1, iv m2, iv ca, iv cb, iv cc, iv pt, rv x811, rv x819, iv f9, rv x10, iv (Int32.ofNat (N + 2)), iv 4] [(.int 48), (.int (Int32.ofNat (N + 2))), (.ref x10)])
        refine hG.st (fun _ q => XS.iload S890.here hx rfl (hb hby at_412) rfl (XS.bipush S890.here hx rfl (hb hby at_414) (XS.idiv S890.here hx rfl (hb hby at_416) rfl (by decide) (XS.bipush S890.here hx rfl (hb hby at_417) (Own.irem S890.here hx rfl (hb hby at_419) rfl (by decide) (XS.iadd S890.here hx rfl (hb hby at_420) rfl q)))))) ?_
        show G T890 (mkF m 421 #[iv q0, iv q1, iv m2, iv ca, iv cb, iv cc, iv pt, rv x811, rv x819, iv f9, rv x10, iv (Int32.ofNat (N + 2)), iv 4] [(.int ((48 : Int32) + ((pt / (10 : Int32)) % (10 : Int32)))), (.int (Int32.ofNat (N + 2))), (.ref x10)])
        refine hG.st (fun _ q => XS.i2c S890.here hx rfl (hb hby at_421) rfl q) ?_
        show G T890 (mkF m 422 #[iv q0, iv q1, iv m2, iv ca, iv cb, iv cc, iv pt, rv x811, rv x819, iv f9, rv x10, iv (Int32.ofNat (N + 2)), iv 4] [(.int (((48 : Int32) + ((pt / (10 : Int32)) % (10 : Int32))).toUInt32.toUInt16.toUInt32.toInt32)), (.int (Int32.ofNat (N + 2))), (.ref x10)])
        refine Own.Sit.stC hG S890 hx V890 ga10 (own_idc (by omega)) (N + 2) (own_tn (by omega)) (by rw [List.length_map, hes890]; omega) rfl rfl (hb hby at_422) (fun T891 h891 S891 J891 V891 => ?_)
        rw [own_cd (by rw [pp.2.1]; omega) (by rw [pp.2.1]; omega), ← List.map_set] at V891
        have hes891 : (((es.set (N) ((48 : Int32) + (pt / 1000 % 10))).set (N + 1) ((48 : Int32) + (pt / 100 % 10))).set (N + 2) ((48 : Int32) + (pt / 10 % 10))).length = 11 := by rw [List.length_set]; exact hes890
        have ht891 : (((es.set (N) ((48 : Int32) + (pt / 1000 % 10))).set (N + 1) ((48 : Int32) + (pt / 100 % 10))).set (N + 2) ((48 : Int32) + (pt / 10 % 10))).take (N + 2 + 1) = (((own_host cs811 ++ [58]) ++ [(48 : Int32) + (pt / 1000 % 10)]) ++ [(48 : Int32) + (pt / 100 % 10)]) ++ [(48 : Int32) + (pt / 10 % 10)] := own_push hes890 (by simp only [List.length_append, List.length_cons, List.length_nil]; rw [hN]; simp only [List.length_append, List.length_cons, List.length_nil]) (by omega) ht890
        refine hG.st (fun _ q => XS.iload S891.here hx rfl (hb hby at_423) rfl (XS.iconst S891.here hx rfl (hb hby at_425) (XS.iadd S891.here hx rfl (hb hby at_426) rfl (XS.istore S891.here hx rfl (hb hby at_427) rfl (l' := #[iv q0, iv q1, iv m2, iv ca, iv cb, iv cc, iv pt, rv x811, rv x819, iv f9, rv x10, iv ((Int32.ofNat (N + 2)) + (1 : Int32)), iv 4]) rfl q)))) ?_
        show G T891 (mkF m 429 #[iv q0, iv q1, iv m2, iv ca, iv cb, iv cc, iv pt, rv x811, rv x819, iv f9, rv x10, iv ((Int32.ofNat (N + 2)) + (1 : Int32)), iv 4] [])
        rw [show (Int32.ofNat (N + 2)) + (1 : Int32) = Int32.ofNat (N + 3) from own_addn (N + 2) 1]
        show G T891 (mkF m 429 #[iv q0, iv q1, iv m2, iv ca, iv cb, iv cc, iv pt, rv x811, rv x819, iv f9, rv x10, iv (Int32.ofNat (N + 3)), iv 4] [])
        refine hG.st (fun _ q => XS.aload S891.here hx rfl (hb hby at_429) rfl rfl (XS.iload S891.here hx rfl (hb hby at_431) rfl (XS.bipush S891.here hx rfl (hb hby at_433) (XS.iload S891.here hx rfl (hb hby at_435) rfl (XS.bipush S891.here hx rfl (hb hby at_437) (Own.irem S891.here hx rfl (hb hby at_439) rfl (by decide) q)))))) ?_
        show G T891 (mkF m 440 #[iv q0, iv q1, iv m2, iv ca, iv cb, iv cc, iv pt, rv x811, rv x819, iv f9, rv x10, iv (Int32.ofNat (N + 3)), iv 4] [(.int (pt % (10 : Int32))), (.int 48), (.int (Int32.ofNat (N + 3))), (.ref x10)])
        refine hG.st (fun _ q => XS.iadd S891.here hx rfl (hb hby at_440) rfl (XS.i2c S891.here hx rfl (hb hby at_441) rfl q)) ?_
        show G T891 (mkF m 442 #[iv q0, iv q1, iv m2, iv ca, iv cb, iv cc, iv pt, rv x811, rv x819, iv f9, rv x10, iv (Int32.ofNat (N + 3)), iv 4] [(.int (((48 : Int32) + (pt % (10 : Int32))).toUInt32.toUInt16.toUInt32.toInt32)), (.int (Int32.ofNat (N + 3))), (.ref x10)])
        refine Own.Sit.stC hG S891 hx V891 ga10 (own_idc (by omega)) (N + 3) (own_tn (by omega)) (by rw [List.length_map, hes891]; omega) rfl rfl (hb hby at_442) (fun T892 h892 S892 J892 V892 => ?_)
        rw [own_cd (by rw [pp.1]; omega) (by rw [pp.1]; omega), ← List.map_set] at V892
        have hes892 : ((((es.set (N) ((48 : Int32) + (pt / 1000 % 10))).set (N + 1) ((48 : Int32) + (pt / 100 % 10))).set (N + 2) ((48 : Int32) + (pt / 10 % 10))).set (N + 3) ((48 : Int32) + (pt % 10))).length = 11 := by rw [List.length_set]; exact hes891
        have ht892 : ((((es.set (N) ((48 : Int32) + (pt / 1000 % 10))).set (N + 1) ((48 : Int32) + (pt / 100 % 10))).set (N + 2) ((48 : Int32) + (pt / 10 % 10))).set (N + 3) ((48 : Int32) + (pt % 10))).take (N + 3 + 1) = ((((own_host cs811 ++ [58]) ++ [(48 : Int32) + (pt / 1000 % 10)]) ++ [(48 : Int32) + (pt / 100 % 10)]) ++ [(48 : Int32) + (pt / 10 % 10)]) ++ [(48 : Int32) + (pt % 10)] := own_push hes891 (by simp only [List.length_append, List.length_cons, List.length_nil]; rw [hN]; simp only [List.length_append, List.length_cons, List.length_nil]) (by omega) ht891
        refine hG.st (fun _ q => XS.iload S892.here hx rfl (hb hby at_443) rfl (XS.iconst S892.here hx rfl (hb hby at_445) (XS.iadd S892.here hx rfl (hb hby at_446) rfl (XS.istore S892.here hx rfl (hb hby at_447) rfl (l' := #[iv q0, iv q1, iv m2, iv ca, iv cb, iv cc, iv pt, rv x811, rv x819, iv f9, rv x10, iv ((Int32.ofNat (N + 3)) + (1 : Int32)), iv 4]) rfl q)))) ?_
        show G T892 (mkF m 449 #[iv q0, iv q1, iv m2, iv ca, iv cb, iv cc, iv pt, rv x811, rv x819, iv f9, rv x10, iv ((Int32.ofNat (N + 3)) + (1 : Int32)), iv 4] [])
        rw [show (Int32.ofNat (N + 3)) + (1 : Int32) = Int32.ofNat (N + 4) from own_addn (N + 3) 1]
        show G T892 (mkF m 449 #[iv q0, iv q1, iv m2, iv ca, iv cb, iv cc, iv pt, rv x811, rv x819, iv f9, rv x10, iv (Int32.ofNat (N + 4)), iv 4] [])
        have ho893 : N + 4 = ((own_host cs811 ++ [58]) ++ own_dig pt).length := by rw [own_dE4 hp, List.length_append, ← hN]; rfl
        have hq894 : ((((es.set (N) ((48 : Int32) + (pt / 1000 % 10))).set (N + 1) ((48 : Int32) + (pt / 100 % 10))).set (N + 2) ((48 : Int32) + (pt / 10 % 10))).set (N + 3) ((48 : Int32) + (pt % 10))).take ((own_host cs811 ++ [58]) ++ own_dig pt).length = ((own_host cs811 ++ [58]) ++ own_dig pt) := by
          rw [← ho893]
          have q := ht892
          rw [own_dE4 hp]
          simpa [own_dig4] using q
        rw [ho893]
        have J895 : Own.Stp Z consts_1 vm819 h819 vm870 h889 [] := Own.Stp.trans J870 J889 (all0) (allS (Or.inr u10) all0)
        have J896 : Own.Stp Z consts_1 vm819 h819 vm870 h890 [] := Own.Stp.trans J895 J890 (all0) (allS (Or.inr u10) all0)
        have J897 : Own.Stp Z consts_1 vm819 h819 vm870 h891 [] := Own.Stp.trans J896 J891 (all0) (allS (Or.inr u10) all0)
        have J898 : Own.Stp Z consts_1 vm819 h819 vm870 h892 [] := Own.Stp.trans J897 J892 (all0) (allS (Or.inr u10) all0)
        exact JE vm870 T892 h892 m2 f9 x10 k10 ((((es.set (N) ((48 : Int32) + (pt / 1000 % 10))).set (N + 1) ((48 : Int32) + (pt / 100 % 10))).set (N + 2) ((48 : Int32) + (pt / 10 % 10))).set (N + 3) ((48 : Int32) + (pt % 10))) (4 : Int32) (S892.mono (by decide) (by decide)) J898 V892 hes892 hq894
      ·
        refine hG.st (fun _ q => XS.iload S870.here hx rfl (hb hby at_265) rfl (XS.sipush S870.here hx rfl (hb hby at_267) (XS.icmpNo S870.here hx rfl (hb hby at_270) rfl (flt ((by rw [Int32.lt_iff_toInt_lt, show (10000 : Int32).toInt = 10000 from by decide]; omega) : ¬ (pt < (10000 : Int32)))).1 (XS.iconst S870.here hx rfl (hb hby at_273) (XS.goto S870.here hx rfl (pc0 := 274) (pc' := 312) rfl (hb hby at_274) (by decide) (by decide) (XS.istore S870.here hx rfl (hb hby at_312) rfl (l' := #[iv q0, iv q1, iv m2, iv ca, iv cb, iv cc, iv pt, rv x811, rv x819, iv f9, rv x10, iv (Int32.ofNat N), iv 5]) rfl q)))))) ?_
        show G T870 (mkF m 314 #[iv q0, iv q1, iv m2, iv ca, iv cb, iv cc, iv pt, rv x811, rv x819, iv f9, rv x10, iv (Int32.ofNat N), iv 5] [])
        refine hG.st (fun _ q => XS.iload S870.here hx rfl (hb hby at_314) rfl (XS.iconst S870.here hx rfl (hb hby at_316) (XS.icmpNo S870.here hx rfl (hb hby at_317) rfl (flt (by decide : ¬ ((5 : Int32) < (5 : Int32)))).1 (XS.aload S870.here hx rfl (hb hby at_320) rfl rfl (XS.iload S870.here hx rfl (hb hby at_322) rfl (XS.bipush S870.here hx rfl (hb hby at_324) q)))))) ?_
        show G T870 (mkF m 326 #[iv q0, iv q1, iv m2, iv ca, iv cb, iv cc, iv pt, rv x811, rv x819, iv f9, rv x10, iv (Int32.ofNat N), iv 5] [(.int 48), (.int (Int32.ofNat N)), (.ref x10)])
        refine hG.st (fun _ q => XS.iload S870.here hx rfl (hb hby at_326) rfl (XS.sipush S870.here hx rfl (hb hby at_328) (XS.idiv S870.here hx rfl (hb hby at_331) rfl (by decide) (XS.iadd S870.here hx rfl (hb hby at_332) rfl (XS.i2c S870.here hx rfl (hb hby at_333) rfl q))))) ?_
        show G T870 (mkF m 334 #[iv q0, iv q1, iv m2, iv ca, iv cb, iv cc, iv pt, rv x811, rv x819, iv f9, rv x10, iv (Int32.ofNat N), iv 5] [(.int (((48 : Int32) + (pt / (10000 : Int32))).toUInt32.toUInt16.toUInt32.toInt32)), (.int (Int32.ofNat N)), (.ref x10)])
        refine Own.Sit.stC hG S870 hx A10 ga10 (own_idc (by omega)) (N) (own_tn (by omega)) (by rw [List.length_map, hes]; omega) rfl rfl (hb hby at_334) (fun T899 h899 S899 J899 V899 => ?_)
        rw [own_cd (by rw [pp.2.2.2.2]; omega) (by rw [pp.2.2.2.2]; omega), ← List.map_set] at V899
        have hes899 : (es.set (N) ((48 : Int32) + (pt / 10000))).length = 11 := by rw [List.length_set]; exact hes
        have ht899 : (es.set (N) ((48 : Int32) + (pt / 10000))).take (N + 1) = (own_host cs811 ++ [58]) ++ [(48 : Int32) + (pt / 10000)] := own_push hes (by exact hN) (by omega) ht
        refine hG.st (fun _ q => XS.iload S899.here hx rfl (hb hby at_335) rfl (XS.iconst S899.here hx rfl (hb hby at_337) (XS.iadd S899.here hx rfl (hb hby at_338) rfl (XS.istore S899.here hx rfl (hb hby at_339) rfl (l' := #[iv q0, iv q1, iv m2, iv ca, iv cb, iv cc, iv pt, rv x811, rv x819, iv f9, rv x10, iv ((Int32.ofNat N) + (1 : Int32)), iv 5]) rfl q)))) ?_
        show G T899 (mkF m 341 #[iv q0, iv q1, iv m2, iv ca, iv cb, iv cc, iv pt, rv x811, rv x819, iv f9, rv x10, iv ((Int32.ofNat N) + (1 : Int32)), iv 5] [])
        rw [show (Int32.ofNat N) + (1 : Int32) = Int32.ofNat (N + 1) from own_addn N 1]
        show G T899 (mkF m 341 #[iv q0, iv q1, iv m2, iv ca, iv cb, iv cc, iv pt, rv x811, rv x819, iv f9, rv x10, iv (Int32.ofNat (N + 1)), iv 5] [])
        refine hG.st (fun _ q => XS.iload S899.here hx rfl (hb hby at_341) rfl (XS.iconst S899.here hx rfl (hb hby at_343) (XS.icmpNo S899.here hx rfl (hb hby at_344) rfl (flt (by decide : ¬ ((5 : Int32) < (4 : Int32)))).1 (XS.aload S899.here hx rfl (hb hby at_347) rfl rfl (XS.iload S899.here hx rfl (hb hby at_349) rfl (XS.bipush S899.here hx rfl (hb hby at_351) q)))))) ?_
        show G T899 (mkF m 353 #[iv q0, iv q1, iv m2, iv ca, iv cb, iv cc, iv pt, rv x811, rv x819, iv f9, rv x10, iv (Int32.ofNat (N + 1)), iv 5] [(.int 48), (.int (Int32.ofNat (N + 1))), (.ref x10)])
        refine hG.st (fun _ q => XS.iload S899.here hx rfl (hb hby at_353) rfl (XS.sipush S899.here hx rfl (hb hby at_355) (XS.idiv S899.here hx rfl (hb hby at_358) rfl (by decide) (XS.bipush S899.here hx rfl (hb hby at_359) (Own.irem S899.here hx rfl (hb hby at_361) rfl (by decide) (XS.iadd S899.here hx rfl (hb hby at_362) rfl q)))))) ?_
        show G T899 (mkF m 363 #[iv q0, iv q1, iv m2, iv ca, iv cb, iv cc, iv pt, rv x811, rv x819, iv f9, rv x10, iv (Int32.ofNat (N + 1)), iv 5] [(.int ((48 : Int32) + ((pt / (1000 : Int32)) % (10 : Int32)))), (.int (Int32.ofNat (N + 1))), (.ref x10)])
        refine hG.st (fun _ q => XS.i2c S899.here hx rfl (hb hby at_363) rfl q) ?_
        show G T899 (mkF m 364 #[iv q0, iv q1, iv m2, iv ca, iv cb, iv cc, iv pt, rv x811, rv x819, iv f9, rv x10, iv (Int32.ofNat (N + 1)), iv 5] [(.int (((48 : Int32) + ((pt / (1000 : Int32)) % (10 : Int32))).toUInt32.toUInt16.toUInt32.toInt32)), (.int (Int32.ofNat (N + 1))), (.ref x10)])
        refine Own.Sit.stC hG S899 hx V899 ga10 (own_idc (by omega)) (N + 1) (own_tn (by omega)) (by rw [List.length_map, hes899]; omega) rfl rfl (hb hby at_364) (fun T900 h900 S900 J900 V900 => ?_)
        rw [own_cd (by rw [pp.2.2.2.1]; omega) (by rw [pp.2.2.2.1]; omega), ← List.map_set] at V900
        have hes900 : ((es.set (N) ((48 : Int32) + (pt / 10000))).set (N + 1) ((48 : Int32) + (pt / 1000 % 10))).length = 11 := by rw [List.length_set]; exact hes899
        have ht900 : ((es.set (N) ((48 : Int32) + (pt / 10000))).set (N + 1) ((48 : Int32) + (pt / 1000 % 10))).take (N + 1 + 1) = ((own_host cs811 ++ [58]) ++ [(48 : Int32) + (pt / 10000)]) ++ [(48 : Int32) + (pt / 1000 % 10)] := own_push hes899 (by simp only [List.length_append, List.length_cons, List.length_nil]; rw [hN]; simp only [List.length_append, List.length_cons, List.length_nil]) (by omega) ht899
        refine hG.st (fun _ q => XS.iload S900.here hx rfl (hb hby at_365) rfl (XS.iconst S900.here hx rfl (hb hby at_367) (XS.iadd S900.here hx rfl (hb hby at_368) rfl (XS.istore S900.here hx rfl (hb hby at_369) rfl (l' := #[iv q0, iv q1, iv m2, iv ca, iv cb, iv cc, iv pt, rv x811, rv x819, iv f9, rv x10, iv ((Int32.ofNat (N + 1)) + (1 : Int32)), iv 5]) rfl q)))) ?_
        show G T900 (mkF m 371 #[iv q0, iv q1, iv m2, iv ca, iv cb, iv cc, iv pt, rv x811, rv x819, iv f9, rv x10, iv ((Int32.ofNat (N + 1)) + (1 : Int32)), iv 5] [])
        rw [show (Int32.ofNat (N + 1)) + (1 : Int32) = Int32.ofNat (N + 2) from own_addn (N + 1) 1]
        show G T900 (mkF m 371 #[iv q0, iv q1, iv m2, iv ca, iv cb, iv cc, iv pt, rv x811, rv x819, iv f9, rv x10, iv (Int32.ofNat (N + 2)), iv 5] [])
        refine hG.st (fun _ q => XS.iload S900.here hx rfl (hb hby at_371) rfl (XS.iconst S900.here hx rfl (hb hby at_373) (XS.icmpNo S900.here hx rfl (hb hby at_374) rfl (flt (by decide : ¬ ((5 : Int32) < (3 : Int32)))).1 (XS.aload S900.here hx rfl (hb hby at_377) rfl rfl (XS.iload S900.here hx rfl (hb hby at_379) rfl (XS.bipush S900.here hx rfl (hb hby at_381) q)))))) ?_
        show G T900 (mkF m 383 #[iv q0, iv q1, iv m2, iv ca, iv cb, iv cc, iv pt, rv x811, rv x819, iv f9, rv x10, iv (Int32.ofNat (N + 2)), iv 5] [(.int 48), (.int (Int32.ofNat (N + 2))), (.ref x10)])
        refine hG.st (fun _ q => XS.iload S900.here hx rfl (hb hby at_383) rfl (XS.bipush S900.here hx rfl (hb hby at_385) (XS.idiv S900.here hx rfl (hb hby at_387) rfl (by decide) (XS.bipush S900.here hx rfl (hb hby at_388) (Own.irem S900.here hx rfl (hb hby at_390) rfl (by decide) (XS.iadd S900.here hx rfl (hb hby at_391) rfl q)))))) ?_
        show G T900 (mkF m 392 #[iv q0, iv q1, iv m2, iv ca, iv cb, iv cc, iv pt, rv x811, rv x819, iv f9, rv x10, iv (Int32.ofNat (N + 2)), iv 5] [(.int ((48 : Int32) + ((pt / (100 : Int32)) % (10 : Int32)))), (.int (Int32.ofNat (N + 2))), (.ref x10)])
        refine hG.st (fun _ q => XS.i2c S900.here hx rfl (hb hby at_392) rfl q) ?_
        show G T900 (mkF m 393 #[iv q0, iv q1, iv m2, iv ca, iv cb, iv cc, iv pt, rv x811, rv x819, iv f9, rv x10, iv (Int32.ofNat (N + 2)), iv 5] [(.int (((48 : Int32) + ((pt / (100 : Int32)) % (10 : Int32))).toUInt32.toUInt16.toUInt32.toInt32)), (.int (Int32.ofNat (N + 2))), (.ref x10)])
        refine Own.Sit.stC hG S900 hx V900 ga10 (own_idc (by omega)) (N + 2) (own_tn (by omega)) (by rw [List.length_map, hes900]; omega) rfl rfl (hb hby at_393) (fun T901 h901 S901 J901 V901 => ?_)
        rw [own_cd (by rw [pp.2.2.1]; omega) (by rw [pp.2.2.1]; omega), ← List.map_set] at V901
        have hes901 : (((es.set (N) ((48 : Int32) + (pt / 10000))).set (N + 1) ((48 : Int32) + (pt / 1000 % 10))).set (N + 2) ((48 : Int32) + (pt / 100 % 10))).length = 11 := by rw [List.length_set]; exact hes900
        have ht901 : (((es.set (N) ((48 : Int32) + (pt / 10000))).set (N + 1) ((48 : Int32) + (pt / 1000 % 10))).set (N + 2) ((48 : Int32) + (pt / 100 % 10))).take (N + 2 + 1) = (((own_host cs811 ++ [58]) ++ [(48 : Int32) + (pt / 10000)]) ++ [(48 : Int32) + (pt / 1000 % 10)]) ++ [(48 : Int32) + (pt / 100 % 10)] := own_push hes900 (by simp only [List.length_append, List.length_cons, List.length_nil]; rw [hN]; simp only [List.length_append, List.length_cons, List.length_nil]) (by omega) ht900
        refine hG.st (fun _ q => XS.iload S901.here hx rfl (hb hby at_394) rfl (XS.iconst S901.here hx rfl (hb hby at_396) (XS.iadd S901.here hx rfl (hb hby at_397) rfl (XS.istore S901.here hx rfl (hb hby at_398) rfl (l' := #[iv q0, iv q1, iv m2, iv ca, iv cb, iv cc, iv pt, rv x811, rv x819, iv f9, rv x10, iv ((Int32.ofNat (N + 2)) + (1 : Int32)), iv 5]) rfl q)))) ?_
        show G T901 (mkF m 400 #[iv q0, iv q1, iv m2, iv ca, iv cb, iv cc, iv pt, rv x811, rv x819, iv f9, rv x10, iv ((Int32.ofNat (N + 2)) + (1 : Int32)), iv 5] [])
        rw [show (Int32.ofNat (N + 2)) + (1 : Int32) = Int32.ofNat (N + 3) from own_addn (N + 2) 1]
        show G T901 (mkF m 400 #[iv q0, iv q1, iv m2, iv ca, iv cb, iv cc, iv pt, rv x811, rv x819, iv f9, rv x10, iv (Int32.ofNat (N + 3)), iv 5] [])
        refine hG.st (fun _ q => XS.iload S901.here hx rfl (hb hby at_400) rfl (XS.iconst S901.here hx rfl (hb hby at_402) (XS.icmpNo S901.here hx rfl (hb hby at_403) rfl (flt (by decide : ¬ ((5 : Int32) < (2 : Int32)))).1 (XS.aload S901.here hx rfl (hb hby at_406) rfl rfl (XS.iload S901.here hx rfl (hb hby at_408) rfl (XS.bipush S901.here hx rfl (hb hby at_410) q)))))) ?_
        show G T901 (mkF m 412 #[iv q0, iv q1, iv m2, iv ca, iv cb, iv cc, iv pt, rv x811, rv x819, iv f9, rv x10, iv (Int32.ofNat (N + 3)), iv 5] [(.int 48), (.int (Int32.ofNat (N + 3))), (.ref x10)])
        refine hG.st (fun _ q => XS.iload S901.here hx rfl (hb hby at_412) rfl (XS.bipush S901.here hx rfl (hb hby at_414) (XS.idiv S901.here hx rfl (hb hby at_416) rfl (by decide) (XS.bipush S901.here hx rfl (hb hby at_417) (Own.irem S901.here hx rfl (hb hby at_419) rfl (by decide) (XS.iadd S901.here hx rfl (hb hby at_420) rfl q)))))) ?_
        show G T901 (mkF m 421 #[iv q0, iv q1, iv m2, iv ca, iv cb, iv cc, iv pt, rv x811, rv x819, iv f9, rv x10, iv (Int32.ofNat (N + 3)), iv 5] [(.int ((48 : Int32) + ((pt / (10 : Int32)) % (10 : Int32)))), (.int (Int32.ofNat (N + 3))), (.ref x10)])
        refine hG.st (fun _ q => XS.i2c S901.here hx rfl (hb hby at_421) rfl q) ?_
        show G T901 (mkF m 422 #[iv q0, iv q1, iv m2, iv ca, iv cb, iv cc, iv pt, rv x811, rv x819, iv f9, rv x10, iv (Int32.ofNat (N + 3)), iv 5] [(.int (((48 : Int32) + ((pt / (10 : Int32)) % (10 : Int32))).toUInt32.toUInt16.toUInt32.toInt32)), (.int (Int32.ofNat (N + 3))), (.ref x10)])
        refine Own.Sit.stC hG S901 hx V901 ga10 (own_idc (by omega)) (N + 3) (own_tn (by omega)) (by rw [List.length_map, hes901]; omega) rfl rfl (hb hby at_422) (fun T902 h902 S902 J902 V902 => ?_)
        rw [own_cd (by rw [pp.2.1]; omega) (by rw [pp.2.1]; omega), ← List.map_set] at V902
        have hes902 : ((((es.set (N) ((48 : Int32) + (pt / 10000))).set (N + 1) ((48 : Int32) + (pt / 1000 % 10))).set (N + 2) ((48 : Int32) + (pt / 100 % 10))).set (N + 3) ((48 : Int32) + (pt / 10 % 10))).length = 11 := by rw [List.length_set]; exact hes901
        have ht902 : ((((es.set (N) ((48 : Int32) + (pt / 10000))).set (N + 1) ((48 : Int32) + (pt / 1000 % 10))).set (N + 2) ((48 : Int32) + (pt / 100 % 10))).set (N + 3) ((48 : Int32) + (pt / 10 % 10))).take (N + 3 + 1) = ((((own_host cs811 ++ [58]) ++ [(48 : Int32) + (pt / 10000)]) ++ [(48 : Int32) + (pt / 1000 % 10)]) ++ [(48 : Int32) + (pt / 100 % 10)]) ++ [(48 : Int32) + (pt / 10 % 10)] := own_push hes901 (by simp only [List.length_append, List.length_cons, List.length_nil]; rw [hN]; simp only [List.length_append, List.length_cons, List.length_nil]) (by omega) ht901
        refine hG.st (fun _ q => XS.iload S902.here hx rfl (hb hby at_423) rfl (XS.iconst S902.here hx rfl (hb hby at_425) (XS.iadd S902.here hx rfl (hb hby at_426) rfl (XS.istore S902.here hx rfl (hb hby at_427) rfl (l' := #[iv q0, iv q1, iv m2, iv ca, iv cb, iv cc, iv pt, rv x811, rv x819, iv f9, rv x10, iv ((Int32.ofNat (N + 3)) + (1 : Int32)), iv 5]) rfl q)))) ?_
        show G T902 (mkF m 429 #[iv q0, iv q1, iv m2, iv ca, iv cb, iv cc, iv pt, rv x811, rv x819, iv f9, rv x10, iv ((Int32.ofNat (N + 3)) + (1 : Int32)), iv 5] [])
        rw [show (Int32.ofNat (N + 3)) + (1 : Int32) = Int32.ofNat (N + 4) from own_addn (N + 3) 1]
        show G T902 (mkF m 429 #[iv q0, iv q1, iv m2, iv ca, iv cb, iv cc, iv pt, rv x811, rv x819, iv f9, rv x10, iv (Int32.ofNat (N + 4)), iv 5] [])
        refine hG.st (fun _ q => XS.aload S902.here hx rfl (hb hby at_429) rfl rfl (XS.iload S902.here hx rfl (hb hby at_431) rfl (XS.bipush S902.here hx rfl (hb hby at_433) (XS.iload S902.here hx rfl (hb hby at_435) rfl (XS.bipush S902.here hx rfl (hb hby at_437) (Own.irem S902.here hx rfl (hb hby at_439) rfl (by decide) q)))))) ?_
        show G T902 (mkF m 440 #[iv q0, iv q1, iv m2, iv ca, iv cb, iv cc, iv pt, rv x811, rv x819, iv f9, rv x10, iv (Int32.ofNat (N + 4)), iv 5] [(.int (pt % (10 : Int32))), (.int 48), (.int (Int32.ofNat (N + 4))), (.ref x10)])
        refine hG.st (fun _ q => XS.iadd S902.here hx rfl (hb hby at_440) rfl (XS.i2c S902.here hx rfl (hb hby at_441) rfl q)) ?_
        show G T902 (mkF m 442 #[iv q0, iv q1, iv m2, iv ca, iv cb, iv cc, iv pt, rv x811, rv x819, iv f9, rv x10, iv (Int32.ofNat (N + 4)), iv 5] [(.int (((48 : Int32) + (pt % (10 : Int32))).toUInt32.toUInt16.toUInt32.toInt32)), (.int (Int32.ofNat (N + 4))), (.ref x10)])
        refine Own.Sit.stC hG S902 hx V902 ga10 (own_idc (by omega)) (N + 4) (own_tn (by omega)) (by rw [List.length_map, hes902]; omega) rfl rfl (hb hby at_442) (fun T903 h903 S903 J903 V903 => ?_)
        rw [own_cd (by rw [pp.1]; omega) (by rw [pp.1]; omega), ← List.map_set] at V903
        have hes903 : (((((es.set (N) ((48 : Int32) + (pt / 10000))).set (N + 1) ((48 : Int32) + (pt / 1000 % 10))).set (N + 2) ((48 : Int32) + (pt / 100 % 10))).set (N + 3) ((48 : Int32) + (pt / 10 % 10))).set (N + 4) ((48 : Int32) + (pt % 10))).length = 11 := by rw [List.length_set]; exact hes902
        have ht903 : (((((es.set (N) ((48 : Int32) + (pt / 10000))).set (N + 1) ((48 : Int32) + (pt / 1000 % 10))).set (N + 2) ((48 : Int32) + (pt / 100 % 10))).set (N + 3) ((48 : Int32) + (pt / 10 % 10))).set (N + 4) ((48 : Int32) + (pt % 10))).take (N + 4 + 1) = (((((own_host cs811 ++ [58]) ++ [(48 : Int32) + (pt / 10000)]) ++ [(48 : Int32) + (pt / 1000 % 10)]) ++ [(48 : Int32) + (pt / 100 % 10)]) ++ [(48 : Int32) + (pt / 10 % 10)]) ++ [(48 : Int32) + (pt % 10)] := own_push hes902 (by simp only [List.length_append, List.length_cons, List.length_nil]; rw [hN]; simp only [List.length_append, List.length_cons, List.length_nil]) (by omega) ht902
        refine hG.st (fun _ q => XS.iload S903.here hx rfl (hb hby at_443) rfl (XS.iconst S903.here hx rfl (hb hby at_445) (XS.iadd S903.here hx rfl (hb hby at_446) rfl (XS.istore S903.here hx rfl (hb hby at_447) rfl (l' := #[iv q0, iv q1, iv m2, iv ca, iv cb, iv cc, iv pt, rv x811, rv x819, iv f9, rv x10, iv ((Int32.ofNat (N + 4)) + (1 : Int32)), iv 5]) rfl q)))) ?_
        show G T903 (mkF m 449 #[iv q0, iv q1, iv m2, iv ca, iv cb, iv cc, iv pt, rv x811, rv x819, iv f9, rv x10, iv ((Int32.ofNat (N + 4)) + (1 : Int32)), iv 5] [])
        rw [show (Int32.ofNat (N + 4)) + (1 : Int32) = Int32.ofNat (N + 5) from own_addn (N + 4) 1]
        show G T903 (mkF m 449 #[iv q0, iv q1, iv m2, iv ca, iv cb, iv cc, iv pt, rv x811, rv x819, iv f9, rv x10, iv (Int32.ofNat (N + 5)), iv 5] [])
        have ho904 : N + 5 = ((own_host cs811 ++ [58]) ++ own_dig pt).length := by rw [own_dE5 hp, List.length_append, ← hN]; rfl
        have hq905 : (((((es.set (N) ((48 : Int32) + (pt / 10000))).set (N + 1) ((48 : Int32) + (pt / 1000 % 10))).set (N + 2) ((48 : Int32) + (pt / 100 % 10))).set (N + 3) ((48 : Int32) + (pt / 10 % 10))).set (N + 4) ((48 : Int32) + (pt % 10))).take ((own_host cs811 ++ [58]) ++ own_dig pt).length = ((own_host cs811 ++ [58]) ++ own_dig pt) := by
          rw [← ho904]
          have q := ht903
          rw [own_dE5 hp]
          simpa [own_dig5] using q
        rw [ho904]
        have J906 : Own.Stp Z consts_1 vm819 h819 vm870 h899 [] := Own.Stp.trans J870 J899 (all0) (allS (Or.inr u10) all0)
        have J907 : Own.Stp Z consts_1 vm819 h819 vm870 h900 [] := Own.Stp.trans J906 J900 (all0) (allS (Or.inr u10) all0)
        have J908 : Own.Stp Z consts_1 vm819 h819 vm870 h901 [] := Own.Stp.trans J907 J901 (all0) (allS (Or.inr u10) all0)
        have J909 : Own.Stp Z consts_1 vm819 h819 vm870 h902 [] := Own.Stp.trans J908 J902 (all0) (allS (Or.inr u10) all0)
        have J910 : Own.Stp Z consts_1 vm819 h819 vm870 h903 [] := Own.Stp.trans J909 J903 (all0) (allS (Or.inr u10) all0)
        exact JE vm870 T903 h903 m2 f9 x10 k10 (((((es.set (N) ((48 : Int32) + (pt / 10000))).set (N + 1) ((48 : Int32) + (pt / 1000 % 10))).set (N + 2) ((48 : Int32) + (pt / 100 % 10))).set (N + 3) ((48 : Int32) + (pt / 10 % 10))).set (N + 4) ((48 : Int32) + (pt % 10))) (5 : Int32) (S903.mono (by decide) (by decide)) J910 V903 hes903 hq905
    rcases own_four en2 with hn | hn | hn | hn
    ·
      rw [hn]
      show G T819 (mkF m 114 #[iv q0, iv q1, iv 0, iv ca, iv cb, iv cc, iv pt, rv x811, rv x819, .unset, .unset, .unset, .unset] [])
      have hck : cs811 = ([] : List Int32) := hcs.trans (by rw [hn]; exact own_mkE0 _ _ _)
      have JF : ∀ (vm911 : Vm) (T911 : State) (h911 : Heap) (f9 : Int32), Own.Sit p l e room_1 s m #[(.int q0), (.int q1)] below meth c Z consts_1 "com/example/latchkey/latchkey/ListenAddressToStringPinLaw" vm911 T911 h911 29 462 → Own.Stp Z consts_1 vm819 h819 vm911 h911 [] → (f9 = 1 ∧ own_has cs811) ∨ (f9 = 0 ∧ ¬ own_has cs811) → G T911 (mkF m 153 #[iv q0, iv q1, iv 0, iv ca, iv cb, iv cc, iv pt, rv x811, rv x819, .unset, .unset, .unset, .unset] [(.int f9)]) := by
        intro vm911 T911 h911 f9 S911 J911 hf
        show G T911 (mkF m 153 #[iv q0, iv q1, iv 0, iv ca, iv cb, iv cc, iv pt, rv x811, rv x819, .unset, .unset, .unset, .unset] [(.int f9)])
        refine hG.st (fun _ q => XS.istore S911.here hx rfl (hb hby at_153) rfl (l' := #[iv q0, iv q1, iv 0, iv ca, iv cb, iv cc, iv pt, rv x811, rv x819, iv f9, .unset, .unset, .unset]) rfl (XS.bipush S911.here hx rfl (hb hby at_155) q)) ?_
        show G T911 (mkF m 157 #[iv q0, iv q1, iv 0, iv ca, iv cb, iv cc, iv pt, rv x811, rv x819, iv f9, .unset, .unset, .unset] [(.int 11)])
        refine Own.Sit.newP hG S911 hx (aty := .char) (hW 8 _ rfl) rfl (hb hby at_157) rfl (by decide) (cap := 11) (by decide) (by decide) (by decide) (by decide) (fun T912 h912 x912 k912 g_x912 S912 J912 Sf912 (V912 : Arv Z h912 x912 k912 .char (11 : Int32) [(.int 0), (.int 0), (.int 0), (.int 0), (.int 0), (.int 0), (.int 0), (.int 0), (.int 0), (.int 0), (.int 0)] (.int 0)) => ?_)
        have lt_x912 := V912.lt
        have ga_x912 : Z.heap.size ≤ x912 := Nat.le_trans S911.le (Nat.le_of_eq g_x912.symm)
        refine hG.st (fun _ q => XS.astore S912.here hx rfl (hb hby at_159) rfl rfl (l' := #[iv q0, iv q1, iv 0, iv ca, iv cb, iv cc, iv pt, rv x811, rv x819, iv f9, rv x912, .unset, .unset]) rfl (XS.iconst S912.here hx rfl (hb hby at_161) (XS.istore S912.here hx rfl (hb hby at_162) rfl (l' := #[iv q0, iv q1, iv 0, iv ca, iv cb, iv cc, iv pt, rv x811, rv x819, iv f9, rv x912, iv 0, .unset]) rfl (XS.iload S912.here hx rfl (hb hby at_164) rfl q)))) ?_
        show G T912 (mkF m 166 #[iv q0, iv q1, iv 0, iv ca, iv cb, iv cc, iv pt, rv x811, rv x819, iv f9, rv x912, iv 0, .unset] [(.int f9)])
        by_cases hc166 : f9 = (0 : Int32)
        ·
          refine hG.st (fun _ q => XS.ifYes S912.here hx rfl (pc0 := 166) (pc' := 182) rfl (hb hby at_166) rfl ((if0 _ _).trans (teq hc166).1) (by decide) (by decide) (XS.iloadN S912.here hx rfl (hb hby at_182) rfl (XS.ifYes S912.here hx rfl (pc0 := 183) (pc' := 198) rfl (hb hby at_183) rfl ((if0 _ _).trans (flt (by decide : ¬ ((0 : Int32) < (0 : Int32)))).2.2.2) (by decide) (by decide) (XS.iloadN S912.here hx rfl (hb hby at_198) rfl (XS.iconst S912.here hx rfl (hb hby at_199) (XS.icmpYes S912.here hx rfl (pc0 := 200) (pc' := 216) rfl (hb hby at_200) rfl (flt (by decide : ¬ ((1 : Int32) < (0 : Int32)))).2.2.2 (by decide) (by decide) q)))))) ?_
          show G T912 (mkF m 216 #[iv q0, iv q1, iv 0, iv ca, iv cb, iv cc, iv pt, rv x811, rv x819, iv f9, rv x912, iv 0, .unset] [])
          refine hG.st (fun _ q => XS.iloadN S912.here hx rfl (hb hby at_216) rfl (XS.iconst S912.here hx rfl (hb hby at_217) (XS.icmpYes S912.here hx rfl (pc0 := 218) (pc' := 234) rfl (hb hby at_218) rfl (flt (by decide : ¬ ((2 : Int32) < (0 : Int32)))).2.2.2 (by decide) (by decide) (XS.iload S912.here hx rfl (hb hby at_234) rfl (XS.ifYes S912.here hx rfl (pc0 := 236) (pc' := 252) rfl (hb hby at_236) rfl ((if0 _ _).trans (teq (hc166 : f9 = (0 : Int32))).1) (by decide) (by decide) (XS.aload S912.here hx rfl (hb hby at_252) rfl rfl q)))))) ?_
          show G T912 (mkF m 254 #[iv q0, iv q1, iv 0, iv ca, iv cb, iv cc, iv pt, rv x811, rv x819, iv f9, rv x912, iv 0, .unset] [(.ref x912)])
          refine hG.st (fun _ q => XS.iload S912.here hx rfl (hb hby at_254) rfl (XS.bipush S912.here hx rfl (hb hby at_256) q)) ?_
          show G T912 (mkF m 258 #[iv q0, iv q1, iv 0, iv ca, iv cb, iv cc, iv pt, rv x811, rv x819, iv f9, rv x912, iv 0, .unset] [(.int 58), (.int 0), (.ref x912)])
          refine Own.Sit.stC hG S912 hx V912 ga_x912 ⟨by decide, by decide⟩ 0 rfl (Nat.le_of_ble_eq_true rfl) rfl rfl (hb hby at_258) (fun T913 h913 S913 J913 (V913 : Arv Z h913 x912 k912 .char (11 : Int32) [(.int 58), (.int 0), (.int 0), (.int 0), (.int 0), (.int 0), (.int 0), (.int 0), (.int 0), (.int 0), (.int 0)] (.int 0)) => ?_)
          refine hG.st (fun _ q => XS.iload S913.here hx rfl (hb hby at_259) rfl (XS.iconst S913.here hx rfl (hb hby at_261) (XS.iadd S913.here hx rfl (hb hby at_262) rfl (XS.istore S913.here hx rfl (hb hby at_263) rfl (l' := #[iv q0, iv q1, iv 0, iv ca, iv cb, iv cc, iv pt, rv x811, rv x819, iv f9, rv x912, iv 1, .unset]) rfl q)))) ?_
          show G T913 (mkF m 265 #[iv q0, iv q1, iv 0, iv ca, iv cb, iv cc, iv pt, rv x811, rv x819, iv f9, rv x912, iv 1, .unset] [])
          have hs914 : own_host cs811 = [] := by rw [hck]; exact (own_hostN (by rw [← hck]; exact own_c0 hf hc166)).symm
          have J915 : Own.Stp Z consts_1 vm819 h819 vm911 h912 [] := Own.Stp.trans J911 J912 (all0) all0
          have J916 : Own.Stp Z consts_1 vm819 h819 vm911 h913 [] := Own.Stp.trans J915 J913 (all0) (allS (Or.inr (Nat.le_trans J911.1.1 (Nat.le_of_eq g_x912.symm))) all0)
          exact JD vm911 T913 h913 (0 : Int32) f9 x912 k912 ([(58 : Int32), (0 : Int32), (0 : Int32), (0 : Int32), (0 : Int32), (0 : Int32), (0 : Int32), (0 : Int32), (0 : Int32), (0 : Int32), (0 : Int32)] : List Int32) 1 (S913.mono (by decide) (by decide)) J916 V913 rfl ga_x912 (Nat.le_trans J911.1.1 (Nat.le_of_eq g_x912.symm)) (by rw [hs914]; rfl) (by rw [hs914]; rfl)
        ·
          refine hG.st (fun _ q => XS.ifNo S912.here hx rfl (hb hby at_166) rfl ((if0 _ _).trans (feq hc166).1) (XS.aload S912.here hx rfl (hb hby at_169) rfl rfl (XS.iload S912.here hx rfl (hb hby at_171) rfl (XS.bipush S912.here hx rfl (hb hby at_173) q)))) ?_
          show G T912 (mkF m 175 #[iv q0, iv q1, iv 0, iv ca, iv cb, iv cc, iv pt, rv x811, rv x819, iv f9, rv x912, iv 0, .unset] [(.int 91), (.int 0), (.ref x912)])
          refine Own.Sit.stC hG S912 hx V912 ga_x912 ⟨by decide, by decide⟩ 0 rfl (Nat.le_of_ble_eq_true rfl) rfl rfl (hb hby at_175) (fun T917 h917 S917 J917 (V917 : Arv Z h917 x912 k912 .char (11 : Int32) [(.int 91), (.int 0), (.int 0), (.int 0), (.int 0), (.int 0), (.int 0), (.int 0), (.int 0), (.int 0), (.int 0)] (.int 0)) => ?_)
          refine hG.st (fun _ q => XS.iload S917.here hx rfl (hb hby at_176) rfl (XS.iconst S917.here hx rfl (hb hby at_178) (XS.iadd S917.here hx rfl (hb hby at_179) rfl (XS.istore S917.here hx rfl (hb hby at_180) rfl (l' := #[iv q0, iv q1, iv 0, iv ca, iv cb, iv cc, iv pt, rv x811, rv x819, iv f9, rv x912, iv 1, .unset]) rfl (XS.iloadN S917.here hx rfl (hb hby at_182) rfl (XS.ifYes S917.here hx rfl (pc0 := 183) (pc' := 198) rfl (hb hby at_183) rfl ((if0 _ _).trans (flt (by decide : ¬ ((0 : Int32) < (0 : Int32)))).2.2.2) (by decide) (by decide) q)))))) ?_
          show G T917 (mkF m 198 #[iv q0, iv q1, iv 0, iv ca, iv cb, iv cc, iv pt, rv x811, rv x819, iv f9, rv x912, iv 1, .unset] [])
          refine hG.st (fun _ q => XS.iloadN S917.here hx rfl (hb hby at_198) rfl (XS.iconst S917.here hx rfl (hb hby at_199) (XS.icmpYes S917.here hx rfl (pc0 := 200) (pc' := 216) rfl (hb hby at_200) rfl (flt (by decide : ¬ ((1 : Int32) < (0 : Int32)))).2.2.2 (by decide) (by decide) (XS.iloadN S917.here hx rfl (hb hby at_216) rfl (XS.iconst S917.here hx rfl (hb hby at_217) (XS.icmpYes S917.here hx rfl (pc0 := 218) (pc' := 234) rfl (hb hby at_218) rfl (flt (by decide : ¬ ((2 : Int32) < (0 : Int32)))).2.2.2 (by decide) (by decide) q)))))) ?_
          show G T917 (mkF m 234 #[iv q0, iv q1, iv 0, iv ca, iv cb, iv cc, iv pt, rv x811, rv x819, iv f9, rv x912, iv 1, .unset] [])
          refine hG.st (fun _ q => XS.iload S917.here hx rfl (hb hby at_234) rfl (XS.ifNo S917.here hx rfl (hb hby at_236) rfl ((if0 _ _).trans (feq (hc166 : ¬ (f9 = (0 : Int32)))).1) (XS.aload S917.here hx rfl (hb hby at_239) rfl rfl (XS.iload S917.here hx rfl (hb hby at_241) rfl (XS.bipush S917.here hx rfl (hb hby at_243) q))))) ?_
          show G T917 (mkF m 245 #[iv q0, iv q1, iv 0, iv ca, iv cb, iv cc, iv pt, rv x811, rv x819, iv f9, rv x912, iv 1, .unset] [(.int 93), (.int 1), (.ref x912)])
          refine Own.Sit.stC hG S917 hx V917 ga_x912 ⟨by decide, by decide⟩ 1 rfl (Nat.le_of_ble_eq_true rfl) rfl rfl (hb hby at_245) (fun T918 h918 S918 J918 (V918 : Arv Z h918 x912 k912 .char (11 : Int32) [(.int 91), (.int 93), (.int 0), (.int 0), (.int 0), (.int 0), (.int 0), (.int 0), (.int 0), (.int 0), (.int 0)] (.int 0)) => ?_)
          refine hG.st (fun _ q => XS.iload S918.here hx rfl (hb hby at_246) rfl (XS.iconst S918.here hx rfl (hb hby at_248) (XS.iadd S918.here hx rfl (hb hby at_249) rfl (XS.istore S918.here hx rfl (hb hby at_250) rfl (l' := #[iv q0, iv q1, iv 0, iv ca, iv cb, iv cc, iv pt, rv x811, rv x819, iv f9, rv x912, iv 2, .unset]) rfl (XS.aload S918.here hx rfl (hb hby at_252) rfl rfl (XS.iload S918.here hx rfl (hb hby at_254) rfl q)))))) ?_
          show G T918 (mkF m 256 #[iv q0, iv q1, iv 0, iv ca, iv cb, iv cc, iv pt, rv x811, rv x819, iv f9, rv x912, iv 2, .unset] [(.int 2), (.ref x912)])
          refine hG.st (fun _ q => XS.bipush S918.here hx rfl (hb hby at_256) q) ?_
          show G T918 (mkF m 258 #[iv q0, iv q1, iv 0, iv ca, iv cb, iv cc, iv pt, rv x811, rv x819, iv f9, rv x912, iv 2, .unset] [(.int 58), (.int 2), (.ref x912)])
          refine Own.Sit.stC hG S918 hx V918 ga_x912 ⟨by decide, by decide⟩ 2 rfl (Nat.le_of_ble_eq_true rfl) rfl rfl (hb hby at_258) (fun T919 h919 S919 J919 (V919 : Arv Z h919 x912 k912 .char (11 : Int32) [(.int 91), (.int 93), (.int 58), (.int 0), (.int 0), (.int 0), (.int 0), (.int 0), (.int 0), (.int 0), (.int 0)] (.int 0)) => ?_)
          refine hG.st (fun _ q => XS.iload S919.here hx rfl (hb hby at_259) rfl (XS.iconst S919.here hx rfl (hb hby at_261) (XS.iadd S919.here hx rfl (hb hby at_262) rfl (XS.istore S919.here hx rfl (hb hby at_263) rfl (l' := #[iv q0, iv q1, iv 0, iv ca, iv cb, iv cc, iv pt, rv x811, rv x819, iv f9, rv x912, iv 3, .unset]) rfl q)))) ?_
          show G T919 (mkF m 265 #[iv q0, iv q1, iv 0, iv ca, iv cb, iv cc, iv pt, rv x811, rv x819, iv f9, rv x912, iv 3, .unset] [])
          have hs920 : own_host cs811 = [(91 : Int32), (93 : Int32)] := by rw [hck]; exact (own_hostY (by rw [← hck]; exact own_c1 hf hc166)).symm
          have J921 : Own.Stp Z consts_1 vm819 h819 vm911 h912 [] := Own.Stp.trans J911 J912 (all0) all0
          have J922 : Own.Stp Z consts_1 vm819 h819 vm911 h917 [] := Own.Stp.trans J921 J917 (all0) (allS (Or.inr (Nat.le_trans J911.1.1 (Nat.le_of_eq g_x912.symm))) all0)
          have J923 : Own.Stp Z consts_1 vm819 h819 vm911 h918 [] := Own.Stp.trans J922 J918 (all0) (allS (Or.inr (Nat.le_trans J911.1.1 (Nat.le_of_eq g_x912.symm))) all0)
          have J924 : Own.Stp Z consts_1 vm819 h819 vm911 h919 [] := Own.Stp.trans J923 J919 (all0) (allS (Or.inr (Nat.le_trans J911.1.1 (Nat.le_of_eq g_x912.symm))) all0)
          exact JD vm911 T919 h919 (0 : Int32) f9 x912 k912 ([(91 : Int32), (93 : Int32), (58 : Int32), (0 : Int32), (0 : Int32), (0 : Int32), (0 : Int32), (0 : Int32), (0 : Int32), (0 : Int32), (0 : Int32)] : List Int32) 3 (S919.mono (by decide) (by decide)) J924 V919 rfl ga_x912 (Nat.le_trans J911.1.1 (Nat.le_of_eq g_x912.symm)) (by rw [hs920]; rfl) (by rw [hs920]; rfl)
      refine hG.st (fun _ q => XS.iloadN S819.here hx rfl (hb hby at_114) rfl (XS.ifYes S819.here hx rfl (pc0 := 115) (pc' := 124) rfl (hb hby at_115) rfl ((if0 _ _).trans (flt (by decide : ¬ ((0 : Int32) < (0 : Int32)))).2.2.2) (by decide) (by decide) (XS.iloadN S819.here hx rfl (hb hby at_124) rfl (XS.iconst S819.here hx rfl (hb hby at_125) (XS.icmpYes S819.here hx rfl (pc0 := 126) (pc' := 136) rfl (hb hby at_126) rfl (flt (by decide : ¬ ((1 : Int32) < (0 : Int32)))).2.2.2 (by decide) (by decide) (XS.iloadN S819.here hx rfl (hb hby at_136) rfl q)))))) ?_
      show G T819 (mkF m 137 #[iv q0, iv q1, iv 0, iv ca, iv cb, iv cc, iv pt, rv x811, rv x819, .unset, .unset, .unset, .unset] [(.int 0)])
      refine hG.st (fun _ q => XS.iconst S819.here hx rfl (hb hby at_137) (XS.icmpYes S819.here hx rfl (pc0 := 138) (pc' := 152) rfl (hb hby at_138) rfl (flt (by decide : ¬ ((2 : Int32) < (0 : Int32)))).2.2.2 (by decide) (by decide) (XS.iconst S819.here hx rfl (hb hby at_152) q))) ?_
      show G T819 (mkF m 153 #[iv q0, iv q1, iv 0, iv ca, iv cb, iv cc, iv pt, rv x811, rv x819, .unset, .unset, .unset, .unset] [(.int 0)])
      exact JF vm819 T819 h819 (0 : Int32) (S819.mono (by decide) (by decide)) (Own.Stp.mono (Own.Stp.refl S819.ch) all0) (Or.inr ⟨rfl, by rw [hck]; exact (fun q => absurd q List.not_mem_nil)⟩)
    ·
      rw [hn]
      show G T819 (mkF m 114 #[iv q0, iv q1, iv 1, iv ca, iv cb, iv cc, iv pt, rv x811, rv x819, .unset, .unset, .unset, .unset] [])
      have hck : cs811 = ([ca] : List Int32) := hcs.trans (by rw [hn]; exact own_mkE1 _ _ _)
      have JF : ∀ (vm925 : Vm) (T925 : State) (h925 : Heap) (f9 : Int32), Own.Sit p l e room_1 s m #[(.int q0), (.int q1)] below meth c Z consts_1 "com/example/latchkey/latchkey/ListenAddressToStringPinLaw" vm925 T925 h925 29 462 → Own.Stp Z consts_1 vm819 h819 vm925 h925 [] → (f9 = 1 ∧ own_has cs811) ∨ (f9 = 0 ∧ ¬ own_has cs811) → G T925 (mkF m 153 #[iv q0, iv q1, iv 1, iv ca, iv cb, iv cc, iv pt, rv x811, rv x819, .unset, .unset, .unset, .unset] [(.int f9)]) := by
        intro vm925 T925 h925 f9 S925 J925 hf
        show G T925 (mkF m 153 #[iv q0, iv q1, iv 1, iv ca, iv cb, iv cc, iv pt, rv x811, rv x819, .unset, .unset, .unset, .unset] [(.int f9)])
        refine hG.st (fun _ q => XS.istore S925.here hx rfl (hb hby at_153) rfl (l' := #[iv q0, iv q1, iv 1, iv ca, iv cb, iv cc, iv pt, rv x811, rv x819, iv f9, .unset, .unset, .unset]) rfl (XS.bipush S925.here hx rfl (hb hby at_155) q)) ?_
        show G T925 (mkF m 157 #[iv q0, iv q1, iv 1, iv ca, iv cb, iv cc, iv pt, rv x811, rv x819, iv f9, .unset, .unset, .unset] [(.int 11)])
        refine Own.Sit.newP hG S925 hx (aty := .char) (hW 8 _ rfl) rfl (hb hby at_157) rfl (by decide) (cap := 11) (by decide) (by decide) (by decide) (by decide) (fun T926 h926 x926 k926 g_x926 S926 J926 Sf926 (V926 : Arv Z h926 x926 k926 .char (11 : Int32) [(.int 0), (.int 0), (.int 0), (.int 0), (.int 0), (.int 0), (.int 0), (.int 0), (.int 0), (.int 0), (.int 0)] (.int 0)) => ?_)
        have lt_x926 := V926.lt
        have ga_x926 : Z.heap.size ≤ x926 := Nat.le_trans S925.le (Nat.le_of_eq g_x926.symm)
        refine hG.st (fun _ q => XS.astore S926.here hx rfl (hb hby at_159) rfl rfl (l' := #[iv q0, iv q1, iv 1, iv ca, iv cb, iv cc, iv pt, rv x811, rv x819, iv f9, rv x926, .unset, .unset]) rfl (XS.iconst S926.here hx rfl (hb hby at_161) (XS.istore S926.here hx rfl (hb hby at_162) rfl (l' := #[iv q0, iv q1, iv 1, iv ca, iv cb, iv cc, iv pt, rv x811, rv x819, iv f9, rv x926, iv 0, .unset]) rfl (XS.iload S926.here hx rfl (hb hby at_164) rfl q)))) ?_
        show G T926 (mkF m 166 #[iv q0, iv q1, iv 1, iv ca, iv cb, iv cc, iv pt, rv x811, rv x819, iv f9, rv x926, iv 0, .unset] [(.int f9)])
        by_cases hc166 : f9 = (0 : Int32)
        ·
          refine hG.st (fun _ q => XS.ifYes S926.here hx rfl (pc0 := 166) (pc' := 182) rfl (hb hby at_166) rfl ((if0 _ _).trans (teq hc166).1) (by decide) (by decide) (XS.iloadN S926.here hx rfl (hb hby at_182) rfl (XS.ifNo S926.here hx rfl (hb hby at_183) rfl ((if0 _ _).trans (tlt (by decide : (0 : Int32) < (1 : Int32))).2.2.2) (XS.aload S926.here hx rfl (hb hby at_186) rfl rfl (XS.iload S926.here hx rfl (hb hby at_188) rfl (XS.iloadN S926.here hx rfl (hb hby at_190) rfl q)))))) ?_
          show G T926 (mkF m 191 #[iv q0, iv q1, iv 1, iv ca, iv cb, iv cc, iv pt, rv x811, rv x819, iv f9, rv x926, iv 0, .unset] [(.int ca), (.int 0), (.ref x926)])
          refine Own.Sit.stC hG S926 hx V926 ga_x926 ⟨by decide, by decide⟩ 0 rfl (Nat.le_of_ble_eq_true rfl) rfl rfl (hb hby at_191) (fun T927 h927 S927 J927 (V927 : Arv Z h927 x926 k926 .char (11 : Int32) [(.int (nar .char ca)), (.int 0), (.int 0), (.int 0), (.int 0), (.int 0), (.int 0), (.int 0), (.int 0), (.int 0), (.int 0)] (.int 0)) => ?_)
          rw [own_narC r_ca] at V927
          refine hG.st (fun _ q => XS.iload S927.here hx rfl (hb hby at_192) rfl (XS.iconst S927.here hx rfl (hb hby at_194) (XS.iadd S927.here hx rfl (hb hby at_195) rfl (XS.istore S927.here hx rfl (hb hby at_196) rfl (l' := #[iv q0, iv q1, iv 1, iv ca, iv cb, iv cc, iv pt, rv x811, rv x819, iv f9, rv x926, iv 1, .unset]) rfl (XS.iloadN S927.here hx rfl (hb hby at_198) rfl (XS.iconst S927.here hx rfl (hb hby at_199) q)))))) ?_
          show G T927 (mkF m 200 #[iv q0, iv q1, iv 1, iv ca, iv cb, iv cc, iv pt, rv x811, rv x819, iv f9, rv x926, iv 1, .unset] [(.int 1), (.int 1)])
          refine hG.st (fun _ q => XS.icmpYes S927.here hx rfl (pc0 := 200) (pc' := 216) rfl (hb hby at_200) rfl (flt (by decide : ¬ ((1 : Int32) < (1 : Int32)))).2.2.2 (by decide) (by decide) (XS.iloadN S927.here hx rfl (hb hby at_216) rfl (XS.iconst S927.here hx rfl (hb hby at_217) (XS.icmpYes S927.here hx rfl (pc0 := 218) (pc' := 234) rfl (hb hby at_218) rfl (flt (by decide : ¬ ((2 : Int32) < (1 : Int32)))).2.2.2 (by decide) (by decide) (XS.iload S927.here hx rfl (hb hby at_234) rfl (XS.ifYes S927.here hx rfl (pc0 := 236) (pc' := 252) rfl (hb hby at_236) rfl ((if0 _ _).trans (teq (hc166 : f9 = (0 : Int32))).1) (by decide) (by decide) q)))))) ?_
          show G T927 (mkF m 252 #[iv q0, iv q1, iv 1, iv ca, iv cb, iv cc, iv pt, rv x811, rv x819, iv f9, rv x926, iv 1, .unset] [])
          refine hG.st (fun _ q => XS.aload S927.here hx rfl (hb hby at_252) rfl rfl (XS.iload S927.here hx rfl (hb hby at_254) rfl (XS.bipush S927.here hx rfl (hb hby at_256) q))) ?_
          show G T927 (mkF m 258 #[iv q0, iv q1, iv 1, iv ca, iv cb, iv cc, iv pt, rv x811, rv x819, iv f9, rv x926, iv 1, .unset] [(.int 58), (.int 1), (.ref x926)])
          refine Own.Sit.stC hG S927 hx V927 ga_x926 ⟨by decide, by decide⟩ 1 rfl (Nat.le_of_ble_eq_true rfl) rfl rfl (hb hby at_258) (fun T928 h928 S928 J928 (V928 : Arv Z h928 x926 k926 .char (11 : Int32) [(.int ca), (.int 58), (.int 0), (.int 0), (.int 0), (.int 0), (.int 0), (.int 0), (.int 0), (.int 0), (.int 0)] (.int 0)) => ?_)
          refine hG.st (fun _ q => XS.iload S928.here hx rfl (hb hby at_259) rfl (XS.iconst S928.here hx rfl (hb hby at_261) (XS.iadd S928.here hx rfl (hb hby at_262) rfl (XS.istore S928.here hx rfl (hb hby at_263) rfl (l' := #[iv q0, iv q1, iv 1, iv ca, iv cb, iv cc, iv pt, rv x811, rv x819, iv f9, rv x926, iv 2, .unset]) rfl q)))) ?_
          show G T928 (mkF m 265 #[iv q0, iv q1, iv 1, iv ca, iv cb, iv cc, iv pt, rv x811, rv x819, iv f9, rv x926, iv 2, .unset] [])
          have hs929 : own_host cs811 = [ca] := by rw [hck]; exact (own_hostN (by rw [← hck]; exact own_c0 hf hc166)).symm
          have J930 : Own.Stp Z consts_1 vm819 h819 vm925 h926 [] := Own.Stp.trans J925 J926 (all0) all0
          have J931 : Own.Stp Z consts_1 vm819 h819 vm925 h927 [] := Own.Stp.trans J930 J927 (all0) (allS (Or.inr (Nat.le_trans J925.1.1 (Nat.le_of_eq g_x926.symm))) all0)
          have J932 : Own.Stp Z consts_1 vm819 h819 vm925 h928 [] := Own.Stp.trans J931 J928 (all0) (allS (Or.inr (Nat.le_trans J925.1.1 (Nat.le_of_eq g_x926.symm))) all0)
          exact JD vm925 T928 h928 (1 : Int32) f9 x926 k926 ([ca, (58 : Int32), (0 : Int32), (0 : Int32), (0 : Int32), (0 : Int32), (0 : Int32), (0 : Int32), (0 : Int32), (0 : Int32), (0 : Int32)] : List Int32) 2 (S928.mono (by decide) (by decide)) J932 V928 rfl ga_x926 (Nat.le_trans J925.1.1 (Nat.le_of_eq g_x926.symm)) (by rw [hs929]; rfl) (by rw [hs929]; rfl)
        ·
          refine hG.st (fun _ q => XS.ifNo S926.here hx rfl (hb hby at_166) rfl ((if0 _ _).trans (feq hc166).1) (XS.aload S926.here hx rfl (hb hby at_169) rfl rfl (XS.iload S926.here hx rfl (hb hby at_171) rfl (XS.bipush S926.here hx rfl (hb hby at_173) q)))) ?_
          show G T926 (mkF m 175 #[iv q0, iv q1, iv 1, iv ca, iv cb, iv cc, iv pt, rv x811, rv x819, iv f9, rv x926, iv 0, .unset] [(.int 91), (.int 0), (.ref x926)])
          refine Own.Sit.stC hG S926 hx V926 ga_x926 ⟨by decide, by decide⟩ 0 rfl (Nat.le_of_ble_eq_true rfl) rfl rfl (hb hby at_175) (fun T933 h933 S933 J933 (V933 : Arv Z h933 x926 k926 .char (11 : Int32) [(.int 91), (.int 0), (.int 0), (.int 0), (.int 0), (.int 0), (.int 0), (.int 0), (.int 0), (.int 0), (.int 0)] (.int 0)) => ?_)
          refine hG.st (fun _ q => XS.iload S933.here hx rfl (hb hby at_176) rfl (XS.iconst S933.here hx rfl (hb hby at_178) (XS.iadd S933.here hx rfl (hb hby at_179) rfl (XS.istore S933.here hx rfl (hb hby at_180) rfl (l' := #[iv q0, iv q1, iv 1, iv ca, iv cb, iv cc, iv pt, rv x811, rv x819, iv f9, rv x926, iv 1, .unset]) rfl (XS.iloadN S933.here hx rfl (hb hby at_182) rfl (XS.ifNo S933.here hx rfl (hb hby at_183) rfl ((if0 _ _).trans (tlt (by decide : (0 : Int32) < (1 : Int32))).2.2.2) q)))))) ?_
          show G T933 (mkF m 186 #[iv q0, iv q1, iv 1, iv ca, iv cb, iv cc, iv pt, rv x811, rv x819, iv f9, rv x926, iv 1, .unset] [])
          refine hG.st (fun _ q => XS.aload S933.here hx rfl (hb hby at_186) rfl rfl (XS.iload S933.here hx rfl (hb hby at_188) rfl (XS.iloadN S933.here hx rfl (hb hby at_190) rfl q))) ?_
          show G T933 (mkF m 191 #[iv q0, iv q1, iv 1, iv ca, iv cb, iv cc, iv pt, rv x811, rv x819, iv f9, rv x926, iv 1, .unset] [(.int ca), (.int 1), (.ref x926)])
          refine Own.Sit.stC hG S933 hx V933 ga_x926 ⟨by decide, by decide⟩ 1 rfl (Nat.le_of_ble_eq_true rfl) rfl rfl (hb hby at_191) (fun T934 h934 S934 J934 (V934 : Arv Z h934 x926 k926 .char (11 : Int32) [(.int 91), (.int (nar .char ca)), (.int 0), (.int 0), (.int 0), (.int 0), (.int 0), (.int 0), (.int 0), (.int 0), (.int 0)] (.int 0)) => ?_)
          rw [own_narC r_ca] at V934
          refine hG.st (fun _ q => XS.iload S934.here hx rfl (hb hby at_192) rfl (XS.iconst S934.here hx rfl (hb hby at_194) (XS.iadd S934.here hx rfl (hb hby at_195) rfl (XS.istore S934.here hx rfl (hb hby at_196) rfl (l' := #[iv q0, iv q1, iv 1, iv ca, iv cb, iv cc, iv pt, rv x811, rv x819, iv f9, rv x926, iv 2, .unset]) rfl (XS.iloadN S934.here hx rfl (hb hby at_198) rfl (XS.iconst S934.here hx rfl (hb hby at_199) q)))))) ?_
          show G T934 (mkF m 200 #[iv q0, iv q1, iv 1, iv ca, iv cb, iv cc, iv pt, rv x811, rv x819, iv f9, rv x926, iv 2, .unset] [(.int 1), (.int 1)])
          refine hG.st (fun _ q => XS.icmpYes S934.here hx rfl (pc0 := 200) (pc' := 216) rfl (hb hby at_200) rfl (flt (by decide : ¬ ((1 : Int32) < (1 : Int32)))).2.2.2 (by decide) (by decide) (XS.iloadN S934.here hx rfl (hb hby at_216) rfl (XS.iconst S934.here hx rfl (hb hby at_217) (XS.icmpYes S934.here hx rfl (pc0 := 218) (pc' := 234) rfl (hb hby at_218) rfl (flt (by decide : ¬ ((2 : Int32) < (1 : Int32)))).2.2.2 (by decide) (by decide) (XS.iload S934.here hx rfl (hb hby at_234) rfl (XS.ifNo S934.here hx rfl (hb hby at_236) rfl ((if0 _ _).trans (feq (hc166 : ¬ (f9 = (0 : Int32)))).1) q)))))) ?_
          show G T934 (mkF m 239 #[iv q0, iv q1, iv 1, iv ca, iv cb, iv cc, iv pt, rv x811, rv x819, iv f9, rv x926, iv 2, .unset] [])
          refine hG.st (fun _ q => XS.aload S934.here hx rfl (hb hby at_239) rfl rfl (XS.iload S934.here hx rfl (hb hby at_241) rfl (XS.bipush S934.here hx rfl (hb hby at_243) q))) ?_
          show G T934 (mkF m 245 #[iv q0, iv q1, iv 1, iv ca, iv cb, iv cc, iv pt, rv x811, rv x819, iv f9, rv x926, iv 2, .unset] [(.int 93), (.int 2), (.ref x926)])
          refine Own.Sit.stC hG S934 hx V934 ga_x926 ⟨by decide, by decide⟩ 2 rfl (Nat.le_of_ble_eq_true rfl) rfl rfl (hb hby at_245) (fun T935 h935 S935 J935 (V935 : Arv Z h935 x926 k926 .char (11 : Int32) [(.int 91), (.int ca), (.int 93), (.int 0), (.int 0), (.int 0), (.int 0), (.int 0), (.int 0), (.int 0), (.int 0)] (.int 0)) => ?_)
          refine hG.st (fun _ q => XS.iload S935.here hx rfl (hb hby at_246) rfl (XS.iconst S935.here hx rfl (hb hby at_248) (XS.iadd S935.here hx rfl (hb hby at_249) rfl (XS.istore S935.here hx rfl (hb hby at_250) rfl (l' := #[iv q0, iv q1, iv 1, iv ca, iv cb, iv cc, iv pt, rv x811, rv x819, iv f9, rv x926, iv 3, .unset]) rfl (XS.aload S935.here hx rfl (hb hby at_252) rfl rfl (XS.iload S935.here hx rfl (hb hby at_254) rfl q)))))) ?_
          show G T935 (mkF m 256 #[iv q0, iv q1, iv 1, iv ca, iv cb, iv cc, iv pt, rv x811, rv x819, iv f9, rv x926, iv 3, .unset] [(.int 3), (.ref x926)])
          refine hG.st (fun _ q => XS.bipush S935.here hx rfl (hb hby at_256) q) ?_
          show G T935 (mkF m 258 #[iv q0, iv q1, iv 1, iv ca, iv cb, iv cc, iv pt, rv x811, rv x819, iv f9, rv x926, iv 3, .unset] [(.int 58), (.int 3), (.ref x926)])
          refine Own.Sit.stC hG S935 hx V935 ga_x926 ⟨by decide, by decide⟩ 3 rfl (Nat.le_of_ble_eq_true rfl) rfl rfl (hb hby at_258) (fun T936 h936 S936 J936 (V936 : Arv Z h936 x926 k926 .char (11 : Int32) [(.int 91), (.int ca), (.int 93), (.int 58), (.int 0), (.int 0), (.int 0), (.int 0), (.int 0), (.int 0), (.int 0)] (.int 0)) => ?_)
          refine hG.st (fun _ q => XS.iload S936.here hx rfl (hb hby at_259) rfl (XS.iconst S936.here hx rfl (hb hby at_261) (XS.iadd S936.here hx rfl (hb hby at_262) rfl (XS.istore S936.here hx rfl (hb hby at_263) rfl (l' := #[iv q0, iv q1, iv 1, iv ca, iv cb, iv cc, iv pt, rv x811, rv x819, iv f9, rv x926, iv 4, .unset]) rfl q)))) ?_
          show G T936 (mkF m 265 #[iv q0, iv q1, iv 1, iv ca, iv cb, iv cc, iv pt, rv x811, rv x819, iv f9, rv x926, iv 4, .unset] [])
          have hs937 : own_host cs811 = [(91 : Int32), ca, (93 : Int32)] := by rw [hck]; exact (own_hostY (by rw [← hck]; exact own_c1 hf hc166)).symm
          have J938 : Own.Stp Z consts_1 vm819 h819 vm925 h926 [] := Own.Stp.trans J925 J926 (all0) all0
          have J939 : Own.Stp Z consts_1 vm819 h819 vm925 h933 [] := Own.Stp.trans J938 J933 (all0) (allS (Or.inr (Nat.le_trans J925.1.1 (Nat.le_of_eq g_x926.symm))) all0)
          have J940 : Own.Stp Z consts_1 vm819 h819 vm925 h934 [] := Own.Stp.trans J939 J934 (all0) (allS (Or.inr (Nat.le_trans J925.1.1 (Nat.le_of_eq g_x926.symm))) all0)
          have J941 : Own.Stp Z consts_1 vm819 h819 vm925 h935 [] := Own.Stp.trans J940 J935 (all0) (allS (Or.inr (Nat.le_trans J925.1.1 (Nat.le_of_eq g_x926.symm))) all0)
          have J942 : Own.Stp Z consts_1 vm819 h819 vm925 h936 [] := Own.Stp.trans J941 J936 (all0) (allS (Or.inr (Nat.le_trans J925.1.1 (Nat.le_of_eq g_x926.symm))) all0)
          exact JD vm925 T936 h936 (1 : Int32) f9 x926 k926 ([(91 : Int32), ca, (93 : Int32), (58 : Int32), (0 : Int32), (0 : Int32), (0 : Int32), (0 : Int32), (0 : Int32), (0 : Int32), (0 : Int32)] : List Int32) 4 (S936.mono (by decide) (by decide)) J942 V936 rfl ga_x926 (Nat.le_trans J925.1.1 (Nat.le_of_eq g_x926.symm)) (by rw [hs937]; rfl) (by rw [hs937]; rfl)
      refine hG.st (fun _ q => XS.iloadN S819.here hx rfl (hb hby at_114) rfl (XS.ifNo S819.here hx rfl (hb hby at_115) rfl ((if0 _ _).trans (tlt (by decide : (0 : Int32) < (1 : Int32))).2.2.2) (XS.iloadN S819.here hx rfl (hb hby at_118) rfl (XS.bipush S819.here hx rfl (hb hby at_119) q)))) ?_
      show G T819 (mkF m 121 #[iv q0, iv q1, iv 1, iv ca, iv cb, iv cc, iv pt, rv x811, rv x819, .unset, .unset, .unset, .unset] [(.int 58), (.int ca)])
      by_cases hc121 : ca = (58 : Int32)
      ·
        refine hG.st (fun _ q => XS.icmpYes S819.here hx rfl (pc0 := 121) (pc' := 148) rfl (hb hby at_121) rfl (teq hc121).1 (by decide) (by decide) (XS.iconst S819.here hx rfl (hb hby at_148) (XS.goto S819.here hx rfl (pc0 := 149) (pc' := 153) rfl (hb hby at_149) (by decide) (by decide) q))) ?_
        show G T819 (mkF m 153 #[iv q0, iv q1, iv 1, iv ca, iv cb, iv cc, iv pt, rv x811, rv x819, .unset, .unset, .unset, .unset] [(.int 1)])
        exact JF vm819 T819 h819 (1 : Int32) (S819.mono (by decide) (by decide)) (Own.Stp.mono (Own.Stp.refl S819.ch) all0) (Or.inl ⟨rfl, by rw [hck]; exact (List.mem_cons.mpr (Or.inl hc121.symm))⟩)
      ·
        refine hG.st (fun _ q => XS.icmpNo S819.here hx rfl (hb hby at_121) rfl (feq hc121).1 (XS.iloadN S819.here hx rfl (hb hby at_124) rfl (XS.iconst S819.here hx rfl (hb hby at_125) (XS.icmpYes S819.here hx rfl (pc0 := 126) (pc' := 136) rfl (hb hby at_126) rfl (flt (by decide : ¬ ((1 : Int32) < (1 : Int32)))).2.2.2 (by decide) (by decide) (XS.iloadN S819.here hx rfl (hb hby at_136) rfl (XS.iconst S819.here hx rfl (hb hby at_137) q)))))) ?_
        show G T819 (mkF m 138 #[iv q0, iv q1, iv 1, iv ca, iv cb, iv cc, iv pt, rv x811, rv x819, .unset, .unset, .unset, .unset] [(.int 2), (.int 1)])
        refine hG.st (fun _ q => XS.icmpYes S819.here hx rfl (pc0 := 138) (pc' := 152) rfl (hb hby at_138) rfl (flt (by decide : ¬ ((2 : Int32) < (1 : Int32)))).2.2.2 (by decide) (by decide) (XS.iconst S819.here hx rfl (hb hby at_152) q)) ?_
        show G T819 (mkF m 153 #[iv q0, iv q1, iv 1, iv ca, iv cb, iv cc, iv pt, rv x811, rv x819, .unset, .unset, .unset, .unset] [(.int 0)])
        exact JF vm819 T819 h819 (0 : Int32) (S819.mono (by decide) (by decide)) (Own.Stp.mono (Own.Stp.refl S819.ch) all0) (Or.inr ⟨rfl, by rw [hck]; exact (fun q => (List.mem_cons.mp q).elim (fun z => hc121 z.symm) (fun q => absurd q List.not_mem_nil))⟩)
    ·
      rw [hn]
      show G T819 (mkF m 114 #[iv q0, iv q1, iv 2, iv ca, iv cb, iv cc, iv pt, rv x811, rv x819, .unset, .unset, .unset, .unset] [])
      have hck : cs811 = ([ca, cb] : List Int32) := hcs.trans (by rw [hn]; exact own_mkE2 _ _ _)
      have JF : ∀ (vm943 : Vm) (T943 : State) (h943 : Heap) (f9 : Int32), Own.Sit p l e room_1 s m #[(.int q0), (.int q1)] below meth c Z consts_1 "com/example/latchkey/latchkey/ListenAddressToStringPinLaw" vm943 T943 h943 29 462 → Own.Stp Z consts_1 vm819 h819 vm943 h943 [] → (f9 = 1 ∧ own_has cs811) ∨ (f9 = 0 ∧ ¬ own_has cs811) → G T943 (mkF m 153 #[iv q0, iv q1, iv 2, iv ca, iv cb, iv cc, iv pt, rv x811, rv x819, .unset, .unset, .unset, .unset] [(.int f9)]) := by
        intro vm943 T943 h943 f9 S943 J943 hf
        show G T943 (mkF m 153 #[iv q0, iv q1, iv 2, iv ca, iv cb, iv cc, iv pt, rv x811, rv x819, .unset, .unset, .unset, .unset] [(.int f9)])
        refine hG.st (fun _ q => XS.istore S943.here hx rfl (hb hby at_153) rfl (l' := #[iv q0, iv q1, iv 2, iv ca, iv cb, iv cc, iv pt, rv x811, rv x819, iv f9, .unset, .unset, .unset]) rfl (XS.bipush S943.here hx rfl (hb hby at_155) q)) ?_
        show G T943 (mkF m 157 #[iv q0, iv q1, iv 2, iv ca, iv cb, iv cc, iv pt, rv x811, rv x819, iv f9, .unset, .unset, .unset] [(.int 11)])
        refine Own.Sit.newP hG S943 hx (aty := .char) (hW 8 _ rfl) rfl (hb hby at_157) rfl (by decide) (cap := 11) (by decide) (by decide) (by decide) (by decide) (fun T944 h944 x944 k944 g_x944 S944 J944 Sf944 (V944 : Arv Z h944 x944 k944 .char (11 : Int32) [(.int 0), (.int 0), (.int 0), (.int 0), (.int 0), (.int 0), (.int 0), (.int 0), (.int 0), (.int 0), (.int 0)] (.int 0)) => ?_)
        have lt_x944 := V944.lt
        have ga_x944 : Z.heap.size ≤ x944 := Nat.le_trans S943.le (Nat.le_of_eq g_x944.symm)
        refine hG.st (fun _ q => XS.astore S944.here hx rfl (hb hby at_159) rfl rfl (l' := #[iv q0, iv q1, iv 2, iv ca, iv cb, iv cc, iv pt, rv x811, rv x819, iv f9, rv x944, .unset, .unset]) rfl (XS.iconst S944.here hx rfl (hb hby at_161) (XS.istore S944.here hx rfl (hb hby at_162) rfl (l' := #[iv q0, iv q1, iv 2, iv ca, iv cb, iv cc, iv pt, rv x811, rv x819, iv f9, rv x944, iv 0, .unset]) rfl (XS.iload S944.here hx rfl (hb hby at_164) rfl q)))) ?_
        show G T944 (mkF m 166 #[iv q0, iv q1, iv 2, iv ca, iv cb, iv cc, iv pt, rv x811, rv x819, iv f9, rv x944, iv 0, .unset] [(.int f9)])
        by_cases hc166 : f9 = (0 : Int32)
        ·
          refine hG.st (fun _ q => XS.ifYes S944.here hx rfl (pc0 := 166) (pc' := 182) rfl (hb hby at_166) rfl ((if0 _ _).trans (teq hc166).1) (by decide) (by decide) (XS.iloadN S944.here hx rfl (hb hby at_182) rfl (XS.ifNo S944.here hx rfl (hb hby at_183) rfl ((if0 _ _).trans (tlt (by decide : (0 : Int32) < (2 : Int32))).2.2.2) (XS.aload S944.here hx rfl (hb hby at_186) rfl rfl (XS.iload S944.here hx rfl (hb hby at_188) rfl (XS.iloadN S944.here hx rfl (hb hby at_190) rfl q)))))) ?_
          show G T944 (mkF m 191 #[iv q0, iv q1, iv 2, iv ca, iv cb, iv cc, iv pt, rv x811, rv x819, iv f9, rv x944, iv 0, .unset] [(.int ca), (.int 0), (.ref x944)])
          refine Own.Sit.stC hG S944 hx V944 ga_x944 ⟨by decide, by decide⟩ 0 rfl (Nat.le_of_ble_eq_true rfl) rfl rfl (hb hby at_191) (fun T945 h945 S945 J945 (V945 : Arv Z h945 x944 k944 .char (11 : Int32) [(.int (nar .char ca)), (.int 0), (.int 0), (.int 0), (.int 0), (.int 0), (.int 0), (.int 0), (.int 0), (.int 0), (.int 0)] (.int 0)) => ?_)
          rw [own_narC r_ca] at V945
          refine hG.st (fun _ q => XS.iload S945.here hx rfl (hb hby at_192) rfl (XS.iconst S945.here hx rfl (hb hby at_194) (XS.iadd S945.here hx rfl (hb hby at_195) rfl (XS.istore S945.here hx rfl (hb hby at_196) rfl (l' := #[iv q0, iv q1, iv 2, iv ca, iv cb, iv cc, iv pt, rv x811, rv x819, iv f9, rv x944, iv 1, .unset]) rfl (XS.iloadN S945.here hx rfl (hb hby at_198) rfl (XS.iconst S945.here hx rfl (hb hby at_199) q)))))) ?_
          show G T945 (mkF m 200 #[iv q0, iv q1, iv 2, iv ca, iv cb, iv cc, iv pt, rv x811, rv x819, iv f9, rv x944, iv 1, .unset] [(.int 1), (.int 2)])
          refine hG.st (fun _ q => XS.icmpNo S945.here hx rfl (hb hby at_200) rfl (tlt (by decide : (1 : Int32) < (2 : Int32))).2.2.2 (XS.aload S945.here hx rfl (hb hby at_203) rfl rfl (XS.iload S945.here hx rfl (hb hby at_205) rfl (XS.iload S945.here hx rfl (hb hby at_207) rfl q)))) ?_
          show G T945 (mkF m 209 #[iv q0, iv q1, iv 2, iv ca, iv cb, iv cc, iv pt, rv x811, rv x819, iv f9, rv x944, iv 1, .unset] [(.int cb), (.int 1), (.ref x944)])
          refine Own.Sit.stC hG S945 hx V945 ga_x944 ⟨by decide, by decide⟩ 1 rfl (Nat.le_of_ble_eq_true rfl) rfl rfl (hb hby at_209) (fun T946 h946 S946 J946 (V946 : Arv Z h946 x944 k944 .char (11 : Int32) [(.int ca), (.int (nar .char cb)), (.int 0), (.int 0), (.int 0), (.int 0), (.int 0), (.int 0), (.int 0), (.int 0), (.int 0)] (.int 0)) => ?_)
          rw [own_narC r_cb] at V946
          refine hG.st (fun _ q => XS.iload S946.here hx rfl (hb hby at_210) rfl (XS.iconst S946.here hx rfl (hb hby at_212) (XS.iadd S946.here hx rfl (hb hby at_213) rfl (XS.istore S946.here hx rfl (hb hby at_214) rfl (l' := #[iv q0, iv q1, iv 2, iv ca, iv cb, iv cc, iv pt, rv x811, rv x819, iv f9, rv x944, iv 2, .unset]) rfl (XS.iloadN S946.here hx rfl (hb hby at_216) rfl (XS.iconst S946.here hx rfl (hb hby at_217) q)))))) ?_
          show G T946 (mkF m 218 #[iv q0, iv q1, iv 2, iv ca, iv cb, iv cc, iv pt, rv x811, rv x819, iv f9, rv x944, iv 2, .unset] [(.int 2), (.int 2)])
          refine hG.st (fun _ q => XS.icmpYes S946.here hx rfl (pc0 := 218) (pc' := 234) rfl (hb hby at_218) rfl (flt (by decide : ¬ ((2 : Int32) < (2 : Int32)))).2.2.2 (by decide) (by decide) (XS.iload S946.here hx rfl (hb hby at_234) rfl (XS.ifYes S946.here hx rfl (pc0 := 236) (pc' := 252) rfl (hb hby at_236) rfl ((if0 _ _).trans (teq (hc166 : f9 = (0 : Int32))).1) (by decide) (by decide) (XS.aload S946.here hx rfl (hb hby at_252) rfl rfl (XS.iload S946.here hx rfl (hb hby at_254) rfl (XS.bipush S946.here hx rfl (hb hby at_256) q)))))) ?_
          show G T946 (mkF m 258 #[iv q0, iv q1, iv 2, iv ca, iv cb, iv cc, iv pt, rv x811, rv x819, iv f9, rv x944, iv 2, .unset] [(.int 58), (.int 2), (.ref x944)])
          refine Own.Sit.stC hG S946 hx V946 ga_x944 ⟨by decide, by decide⟩ 2 rfl (Nat.le_of_ble_eq_true rfl) rfl rfl (hb hby at_258) (fun T947 h947 S947 J947 (V947 : Arv Z h947 x944 k944 .char (11 : Int32) [(.int ca), (.int cb), (.int 58), (.int 0), (.int 0), (.int 0), (.int 0), (.int 0), (.int 0), (.int 0), (.int 0)] (.int 0)) => ?_)
          refine hG.st (fun _ q => XS.iload S947.here hx rfl (hb hby at_259) rfl (XS.iconst S947.here hx rfl (hb hby at_261) (XS.iadd S947.here hx rfl (hb hby at_262) rfl (XS.istore S947.here hx rfl (hb hby at_263) rfl (l' := #[iv q0, iv q1, iv 2, iv ca, iv cb, iv cc, iv pt, rv x811, rv x819, iv f9, rv x944, iv 3, .unset]) rfl q)))) ?_
          show G T947 (mkF m 265 #[iv q0, iv q1, iv 2, iv ca, iv cb, iv cc, iv pt, rv x811, rv x819, iv f9, rv x944, iv 3, .unset] [])
          have hs948 : own_host cs811 = [ca, cb] := by rw [hck]; exact (own_hostN (by rw [← hck]; exact own_c0 hf hc166)).symm
          have J949 : Own.Stp Z consts_1 vm819 h819 vm943 h944 [] := Own.Stp.trans J943 J944 (all0) all0
          have J950 : Own.Stp Z consts_1 vm819 h819 vm943 h945 [] := Own.Stp.trans J949 J945 (all0) (allS (Or.inr (Nat.le_trans J943.1.1 (Nat.le_of_eq g_x944.symm))) all0)
          have J951 : Own.Stp Z consts_1 vm819 h819 vm943 h946 [] := Own.Stp.trans J950 J946 (all0) (allS (Or.inr (Nat.le_trans J943.1.1 (Nat.le_of_eq g_x944.symm))) all0)
          have J952 : Own.Stp Z consts_1 vm819 h819 vm943 h947 [] := Own.Stp.trans J951 J947 (all0) (allS (Or.inr (Nat.le_trans J943.1.1 (Nat.le_of_eq g_x944.symm))) all0)
          exact JD vm943 T947 h947 (2 : Int32) f9 x944 k944 ([ca, cb, (58 : Int32), (0 : Int32), (0 : Int32), (0 : Int32), (0 : Int32), (0 : Int32), (0 : Int32), (0 : Int32), (0 : Int32)] : List Int32) 3 (S947.mono (by decide) (by decide)) J952 V947 rfl ga_x944 (Nat.le_trans J943.1.1 (Nat.le_of_eq g_x944.symm)) (by rw [hs948]; rfl) (by rw [hs948]; rfl)
        ·
          refine hG.st (fun _ q => XS.ifNo S944.here hx rfl (hb hby at_166) rfl ((if0 _ _).trans (feq hc166).1) (XS.aload S944.here hx rfl (hb hby at_169) rfl rfl (XS.iload S944.here hx rfl (hb hby at_171) rfl (XS.bipush S944.here hx rfl (hb hby at_173) q)))) ?_
          show G T944 (mkF m 175 #[iv q0, iv q1, iv 2, iv ca, iv cb, iv cc, iv pt, rv x811, rv x819, iv f9, rv x944, iv 0, .unset] [(.int 91), (.int 0), (.ref x944)])
          refine Own.Sit.stC hG S944 hx V944 ga_x944 ⟨by decide, by decide⟩ 0 rfl (Nat.le_of_ble_eq_true rfl) rfl rfl (hb hby at_175) (fun T953 h953 S953 J953 (V953 : Arv Z h953 x944 k944 .char (11 : Int32) [(.int 91), (.int 0), (.int 0), (.int 0), (.int 0), (.int 0), (.int 0), (.int 0), (.int 0), (.int 0), (.int 0)] (.int 0)) => ?_)
          refine hG.st (fun _ q => XS.iload S953.here hx rfl (hb hby at_176) rfl (XS.iconst S953.here hx rfl (hb hby at_178) (XS.iadd S953.here hx rfl (hb hby at_179) rfl (XS.istore S953.here hx rfl (hb hby at_180) rfl (l' := #[iv q0, iv q1, iv 2, iv ca, iv cb, iv cc, iv pt, rv x811, rv x819, iv f9, rv x944, iv 1, .unset]) rfl (XS.iloadN S953.here hx rfl (hb hby at_182) rfl (XS.ifNo S953.here hx rfl (hb hby at_183) rfl ((if0 _ _).trans (tlt (by decide : (0 : Int32) < (2 : Int32))).2.2.2) q)))))) ?_
          show G T953 (mkF m 186 #[iv q0, iv q1, iv 2, iv ca, iv cb, iv cc, iv pt, rv x811, rv x819, iv f9, rv x944, iv 1, .unset] [])
          refine hG.st (fun _ q => XS.aload S953.here hx rfl (hb hby at_186) rfl rfl (XS.iload S953.here hx rfl (hb hby at_188) rfl (XS.iloadN S953.here hx rfl (hb hby at_190) rfl q))) ?_
          show G T953 (mkF m 191 #[iv q0, iv q1, iv 2, iv ca, iv cb, iv cc, iv pt, rv x811, rv x819, iv f9, rv x944, iv 1, .unset] [(.int ca), (.int 1), (.ref x944)])
          refine Own.Sit.stC hG S953 hx V953 ga_x944 ⟨by decide, by decide⟩ 1 rfl (Nat.le_of_ble_eq_true rfl) rfl rfl (hb hby at_191) (fun T954 h954 S954 J954 (V954 : Arv Z h954 x944 k944 .char (11 : Int32) [(.int 91), (.int (nar .char ca)), (.int 0), (.int 0), (.int 0), (.int 0), (.int 0), (.int 0), (.int 0), (.int 0), (.int 0)] (.int 0)) => ?_)
          rw [own_narC r_ca] at V954
          refine hG.st (fun _ q => XS.iload S954.here hx rfl (hb hby at_192) rfl (XS.iconst S954.here hx rfl (hb hby at_194) (XS.iadd S954.here hx rfl (hb hby at_195) rfl (XS.istore S954.here hx rfl (hb hby at_196) rfl (l' := #[iv q0, iv q1, iv 2, iv ca, iv cb, iv cc, iv pt, rv x811, rv x819, iv f9, rv x944, iv 2, .unset]) rfl (XS.iloadN S954.here hx rfl (hb hby at_198) rfl (XS.iconst S954.here hx rfl (hb hby at_199) q)))))) ?_
          show G T954 (mkF m 200 #[iv q0, iv q1, iv 2, iv ca, iv cb, iv cc, iv pt, rv x811, rv x819, iv f9, rv x944, iv 2, .unset] [(.int 1), (.int 2)])
          refine hG.st (fun _ q => XS.icmpNo S954.here hx rfl (hb hby at_200) rfl (tlt (by decide : (1 : Int32) < (2 : Int32))).2.2.2 (XS.aload S954.here hx rfl (hb hby at_203) rfl rfl (XS.iload S954.here hx rfl (hb hby at_205) rfl (XS.iload S954.here hx rfl (hb hby at_207) rfl q)))) ?_
          show G T954 (mkF m 209 #[iv q0, iv q1, iv 2, iv ca, iv cb, iv cc, iv pt, rv x811, rv x819, iv f9, rv x944, iv 2, .unset] [(.int cb), (.int 2), (.ref x944)])
          refine Own.Sit.stC hG S954 hx V954 ga_x944 ⟨by decide, by decide⟩ 2 rfl (Nat.le_of_ble_eq_true rfl) rfl rfl (hb hby at_209) (fun T955 h955 S955 J955 (V955 : Arv Z h955 x944 k944 .char (11 : Int32) [(.int 91), (.int ca), (.int (nar .char cb)), (.int 0), (.int 0), (.int 0), (.int 0), (.int 0), (.int 0), (.int 0), (.int 0)] (.int 0)) => ?_)
          rw [own_narC r_cb] at V955
          refine hG.st (fun _ q => XS.iload S955.here hx rfl (hb hby at_210) rfl (XS.iconst S955.here hx rfl (hb hby at_212) (XS.iadd S955.here hx rfl (hb hby at_213) rfl (XS.istore S955.here hx rfl (hb hby at_214) rfl (l' := #[iv q0, iv q1, iv 2, iv ca, iv cb, iv cc, iv pt, rv x811, rv x819, iv f9, rv x944, iv 3, .unset]) rfl (XS.iloadN S955.here hx rfl (hb hby at_216) rfl (XS.iconst S955.here hx rfl (hb hby at_217) q)))))) ?_
          show G T955 (mkF m 218 #[iv q0, iv q1, iv 2, iv ca, iv cb, iv cc, iv pt, rv x811, rv x819, iv f9, rv x944, iv 3, .unset] [(.int 2), (.int 2)])
          refine hG.st (fun _ q => XS.icmpYes S955.here hx rfl (pc0 := 218) (pc' := 234) rfl (hb hby at_218) rfl (flt (by decide : ¬ ((2 : Int32) < (2 : Int32)))).2.2.2 (by decide) (by decide) (XS.iload S955.here hx rfl (hb hby at_234) rfl (XS.ifNo S955.here hx rfl (hb hby at_236) rfl ((if0 _ _).trans (feq (hc166 : ¬ (f9 = (0 : Int32)))).1) (XS.aload S955.here hx rfl (hb hby at_239) rfl rfl (XS.iload S955.here hx rfl (hb hby at_241) rfl (XS.bipush S955.here hx rfl (hb hby at_243) q)))))) ?_
          show G T955 (mkF m 245 #[iv q0, iv q1, iv 2, iv ca, iv cb, iv cc, iv pt, rv x811, rv x819, iv f9, rv x944, iv 3, .unset] [(.int 93), (.int 3), (.ref x944)])
          refine Own.Sit.stC hG S955 hx V955 ga_x944 ⟨by decide, by decide⟩ 3 rfl (Nat.le_of_ble_eq_true rfl) rfl rfl (hb hby at_245) (fun T956 h956 S956 J956 (V956 : Arv Z h956 x944 k944 .char (11 : Int32) [(.int 91), (.int ca), (.int cb), (.int 93), (.int 0), (.int 0), (.int 0), (.int 0), (.int 0), (.int 0), (.int 0)] (.int 0)) => ?_)
          refine hG.st (fun _ q => XS.iload S956.here hx rfl (hb hby at_246) rfl (XS.iconst S956.here hx rfl (hb hby at_248) (XS.iadd S956.here hx rfl (hb hby at_249) rfl (XS.istore S956.here hx rfl (hb hby at_250) rfl (l' := #[iv q0, iv q1, iv 2, iv ca, iv cb, iv cc, iv pt, rv x811, rv x819, iv f9, rv x944, iv 4, .unset]) rfl (XS.aload S956.here hx rfl (hb hby at_252) rfl rfl (XS.iload S956.here hx rfl (hb hby at_254) rfl q)))))) ?_
          show G T956 (mkF m 256 #[iv q0, iv q1, iv 2, iv ca, iv cb, iv cc, iv pt, rv x811, rv x819, iv f9, rv x944, iv 4, .unset] [(.int 4), (.ref x944)])
          refine hG.st (fun _ q => XS.bipush S956.here hx rfl (hb hby at_256) q) ?_
          show G T956 (mkF m 258 #[iv q0, iv q1, iv 2, iv ca, iv cb, iv cc, iv pt, rv x811, rv x819, iv f9, rv x944, iv 4, .unset] [(.int 58), (.int 4), (.ref x944)])
          refine Own.Sit.stC hG S956 hx V956 ga_x944 ⟨by decide, by decide⟩ 4 rfl (Nat.le_of_ble_eq_true rfl) rfl rfl (hb hby at_258) (fun T957 h957 S957 J957 (V957 : Arv Z h957 x944 k944 .char (11 : Int32) [(.int 91), (.int ca), (.int cb), (.int 93), (.int 58), (.int 0), (.int 0), (.int 0), (.int 0), (.int 0), (.int 0)] (.int 0)) => ?_)
          refine hG.st (fun _ q => XS.iload S957.here hx rfl (hb hby at_259) rfl (XS.iconst S957.here hx rfl (hb hby at_261) (XS.iadd S957.here hx rfl (hb hby at_262) rfl (XS.istore S957.here hx rfl (hb hby at_263) rfl (l' := #[iv q0, iv q1, iv 2, iv ca, iv cb, iv cc, iv pt, rv x811, rv x819, iv f9, rv x944, iv 5, .unset]) rfl q)))) ?_
          show G T957 (mkF m 265 #[iv q0, iv q1, iv 2, iv ca, iv cb, iv cc, iv pt, rv x811, rv x819, iv f9, rv x944, iv 5, .unset] [])
          have hs958 : own_host cs811 = [(91 : Int32), ca, cb, (93 : Int32)] := by rw [hck]; exact (own_hostY (by rw [← hck]; exact own_c1 hf hc166)).symm
          have J959 : Own.Stp Z consts_1 vm819 h819 vm943 h944 [] := Own.Stp.trans J943 J944 (all0) all0
          have J960 : Own.Stp Z consts_1 vm819 h819 vm943 h953 [] := Own.Stp.trans J959 J953 (all0) (allS (Or.inr (Nat.le_trans J943.1.1 (Nat.le_of_eq g_x944.symm))) all0)
          have J961 : Own.Stp Z consts_1 vm819 h819 vm943 h954 [] := Own.Stp.trans J960 J954 (all0) (allS (Or.inr (Nat.le_trans J943.1.1 (Nat.le_of_eq g_x944.symm))) all0)
          have J962 : Own.Stp Z consts_1 vm819 h819 vm943 h955 [] := Own.Stp.trans J961 J955 (all0) (allS (Or.inr (Nat.le_trans J943.1.1 (Nat.le_of_eq g_x944.symm))) all0)
          have J963 : Own.Stp Z consts_1 vm819 h819 vm943 h956 [] := Own.Stp.trans J962 J956 (all0) (allS (Or.inr (Nat.le_trans J943.1.1 (Nat.le_of_eq g_x944.symm))) all0)
          have J964 : Own.Stp Z consts_1 vm819 h819 vm943 h957 [] := Own.Stp.trans J963 J957 (all0) (allS (Or.inr (Nat.le_trans J943.1.1 (Nat.le_of_eq g_x944.symm))) all0)
          exact JD vm943 T957 h957 (2 : Int32) f9 x944 k944 ([(91 : Int32), ca, cb, (93 : Int32), (58 : Int32), (0 : Int32), (0 : Int32), (0 : Int32), (0 : Int32), (0 : Int32), (0 : Int32)] : List Int32) 5 (S957.mono (by decide) (by decide)) J964 V957 rfl ga_x944 (Nat.le_trans J943.1.1 (Nat.le_of_eq g_x944.symm)) (by rw [hs958]; rfl) (by rw [hs958]; rfl)
      refine hG.st (fun _ q => XS.iloadN S819.here hx rfl (hb hby at_114) rfl (XS.ifNo S819.here hx rfl (hb hby at_115) rfl ((if0 _ _).trans (tlt (by decide : (0 : Int32) < (2 : Int32))).2.2.2) (XS.iloadN S819.here hx rfl (hb hby at_118) rfl (XS.bipush S819.here hx rfl (hb hby at_119) q)))) ?_
      show G T819 (mkF m 121 #[iv q0, iv q1, iv 2, iv ca, iv cb, iv cc, iv pt, rv x811, rv x819, .unset, .unset, .unset, .unset] [(.int 58), (.int ca)])
      by_cases hc121 : ca = (58 : Int32)
      ·
        refine hG.st (fun _ q => XS.icmpYes S819.here hx rfl (pc0 := 121) (pc' := 148) rfl (hb hby at_121) rfl (teq hc121).1 (by decide) (by decide) (XS.iconst S819.here hx rfl (hb hby at_148) (XS.goto S819.here hx rfl (pc0 := 149) (pc' := 153) rfl (hb hby at_149) (by decide) (by decide) q))) ?_
        show G T819 (mkF m 153 #[iv q0, iv q1, iv 2, iv ca, iv cb, iv cc, iv pt, rv x811, rv x819, .unset, .unset, .unset, .unset] [(.int 1)])
        exact JF vm819 T819 h819 (1 : Int32) (S819.mono (by decide) (by decide)) (Own.Stp.mono (Own.Stp.refl S819.ch) all0) (Or.inl ⟨rfl, by rw [hck]; exact (List.mem_cons.mpr (Or.inl hc121.symm))⟩)
      ·
        refine hG.st (fun _ q => XS.icmpNo S819.here hx rfl (hb hby at_121) rfl (feq hc121).1 (XS.iloadN S819.here hx rfl (hb hby at_124) rfl (XS.iconst S819.here hx rfl (hb hby at_125) (XS.icmpNo S819.here hx rfl (hb hby at_126) rfl (tlt (by decide : (1 : Int32) < (2 : Int32))).2.2.2 (XS.iload S819.here hx rfl (hb hby at_129) rfl (XS.bipush S819.here hx rfl (hb hby at_131) q)))))) ?_
        show G T819 (mkF m 133 #[iv q0, iv q1, iv 2, iv ca, iv cb, iv cc, iv pt, rv x811, rv x819, .unset, .unset, .unset, .unset] [(.int 58), (.int cb)])
        by_cases hc133 : cb = (58 : Int32)
        ·
          refine hG.st (fun _ q => XS.icmpYes S819.here hx rfl (pc0 := 133) (pc' := 148) rfl (hb hby at_133) rfl (teq hc133).1 (by decide) (by decide) (XS.iconst S819.here hx rfl (hb hby at_148) (XS.goto S819.here hx rfl (pc0 := 149) (pc' := 153) rfl (hb hby at_149) (by decide) (by decide) q))) ?_
          show G T819 (mkF m 153 #[iv q0, iv q1, iv 2, iv ca, iv cb, iv cc, iv pt, rv x811, rv x819, .unset, .unset, .unset, .unset] [(.int 1)])
          exact JF vm819 T819 h819 (1 : Int32) (S819.mono (by decide) (by decide)) (Own.Stp.mono (Own.Stp.refl S819.ch) all0) (Or.inl ⟨rfl, by rw [hck]; exact (List.mem_cons_of_mem _ (List.mem_cons.mpr (Or.inl hc133.symm)))⟩)
        ·
          refine hG.st (fun _ q => XS.icmpNo S819.here hx rfl (hb hby at_133) rfl (feq hc133).1 (XS.iloadN S819.here hx rfl (hb hby at_136) rfl (XS.iconst S819.here hx rfl (hb hby at_137) (XS.icmpYes S819.here hx rfl (pc0 := 138) (pc' := 152) rfl (hb hby at_138) rfl (flt (by decide : ¬ ((2 : Int32) < (2 : Int32)))).2.2.2 (by decide) (by decide) (XS.iconst S819.here hx rfl (hb hby at_152) q))))) ?_
          show G T819 (mkF m 153 #[iv q0, iv q1, iv 2, iv ca, iv cb, iv cc, iv pt, rv x811, rv x819, .unset, .unset, .unset, .unset] [(.int 0)])
          exact JF vm819 T819 h819 (0 : Int32) (S819.mono (by decide) (by decide)) (Own.Stp.mono (Own.Stp.refl S819.ch) all0) (Or.inr ⟨rfl, by rw [hck]; exact (fun q => (List.mem_cons.mp q).elim (fun z => hc121 z.symm) (fun q => (List.mem_cons.mp q).elim (fun z => hc133 z.symm) (fun q => absurd q List.not_mem_nil)))⟩)
    ·
      rw [hn]
      show G T819 (mkF m 114 #[iv q0, iv q1, iv 3, iv ca, iv cb, iv cc, iv pt, rv x811, rv x819, .unset, .unset, .unset, .unset] [])
      have hck : cs811 = ([ca, cb, cc] : List Int32) := hcs.trans (by rw [hn]; exact own_mkE3 _ _ _)
      have JF : ∀ (vm965 : Vm) (T965 : State) (h965 : Heap) (f9 : Int32), Own.Sit p l e room_1 s m #[(.int q0), (.int q1)] below meth c Z consts_1 "com/example/latchkey/latchkey/ListenAddressToStringPinLaw" vm965 T965 h965 29 462 → Own.Stp Z consts_1 vm819 h819 vm965 h965 [] → (f9 = 1 ∧ own_has cs811) ∨ (f9 = 0 ∧ ¬ own_has cs811) → G T965 (mkF m 153 #[iv q0, iv q1, iv 3, iv ca, iv cb, iv cc, iv pt, rv x811, rv x819, .unset, .unset, .unset, .unset] [(.int f9)]) := by
        intro vm965 T965 h965 f9 S965 J965 hf
        show G T965 (mkF m 153 #[iv q0, iv q1, iv 3, iv ca, iv cb, iv cc, iv pt, rv x811, rv x819, .unset, .unset, .unset, .unset] [(.int f9)])
        refine hG.st (fun _ q => XS.istore S965.here hx rfl (hb hby at_153) rfl (l' := #[iv q0, iv q1, iv 3, iv ca, iv cb, iv cc, iv pt, rv x811, rv x819, iv f9, .unset, .unset, .unset]) rfl (XS.bipush S965.here hx rfl (hb hby at_155) q)) ?_
        show G T965 (mkF m 157 #[iv q0, iv q1, iv 3, iv ca, iv cb, iv cc, iv pt, rv x811, rv x819, iv f9, .unset, .unset, .unset] [(.int 11)])
        refine Own.Sit.newP hG S965 hx (aty := .char) (hW 8 _ rfl) rfl (hb hby at_157) rfl (by decide) (cap := 11) (by decide) (by decide) (by decide) (by decide) (fun T966 h966 x966 k966 g_x966 S966 J966 Sf966 (V966 : Arv Z h966 x966 k966 .char (11 : Int32) [(.int 0), (.int 0), (.int 0), (.int 0), (.int 0), (.int 0), (.int 0), (.int 0), (.int 0), (.int 0), (.int 0)] (.int 0)) => ?_)
        have lt_x966 := V966.lt
        have ga_x966 : Z.heap.size ≤ x966 := Nat.le_trans S965.le (Nat.le_of_eq g_x966.symm)
        refine hG.st (fun _ q => XS.astore S966.here hx rfl (hb hby at_159) rfl rfl (l' := #[iv q0, iv q1, iv 3, iv ca, iv cb, iv cc, iv pt, rv x811, rv x819, iv f9, rv x966, .unset, .unset]) rfl (XS.iconst S966.here hx rfl (hb hby at_161) (XS.istore S966.here hx rfl (hb hby at_162) rfl (l' := #[iv q0, iv q1, iv 3, iv ca, iv cb, iv cc, iv pt, rv x811, rv x819, iv f9, rv x966, iv 0, .unset]) rfl (XS.iload S966.here hx rfl (hb hby at_164) rfl q)))) ?_
        show G T966 (mkF m 166 #[iv q0, iv q1, iv 3, iv ca, iv cb, iv cc, iv pt, rv x811, rv x819, iv f9, rv x966, iv 0, .unset] [(.int f9)])
        by_cases hc166 : f9 = (0 : Int32)
        ·
          refine hG.st (fun _ q => XS.ifYes S966.here hx rfl (pc0 := 166) (pc' := 182) rfl (hb hby at_166) rfl ((if0 _ _).trans (teq hc166).1) (by decide) (by decide) (XS.iloadN S966.here hx rfl (hb hby at_182) rfl (XS.ifNo S966.here hx rfl (hb hby at_183) rfl ((if0 _ _).trans (tlt (by decide : (0 : Int32) < (3 : Int32))).2.2.2) (XS.aload S966.here hx rfl (hb hby at_186) rfl rfl (XS.iload S966.here hx rfl (hb hby at_188) rfl (XS.iloadN S966.here hx rfl (hb hby at_190) rfl q)))))) ?_
          show G T966 (mkF m 191 #[iv q0, iv q1, iv 3, iv ca, iv cb, iv cc, iv pt, rv x811, rv x819, iv f9, rv x966, iv 0, .unset] [(.int ca), (.int 0), (.ref x966)])
          refine Own.Sit.stC hG S966 hx V966 ga_x966 ⟨by decide, by decide⟩ 0 rfl (Nat.le_of_ble_eq_true rfl) rfl rfl (hb hby at_191) (fun T967 h967 S967 J967 (V967 : Arv Z h967 x966 k966 .char (11 : Int32) [(.int (nar .char ca)), (.int 0), (.int 0), (.int 0), (.int 0), (.int 0), (.int 0), (.int 0), (.int 0), (.int 0), (.int 0)] (.int 0)) => ?_)
          rw [own_narC r_ca] at V967
          refine hG.st (fun _ q => XS.iload S967.here hx rfl (hb hby at_192) rfl (XS.iconst S967.here hx rfl (hb hby at_194) (XS.iadd S967.here hx rfl (hb hby at_195) rfl (XS.istore S967.here hx rfl (hb hby at_196) rfl (l' := #[iv q0, iv q1, iv 3, iv ca, iv cb, iv cc, iv pt, rv x811, rv x819, iv f9, rv x966, iv 1, .unset]) rfl (XS.iloadN S967.here hx rfl (hb hby at_198) rfl (XS.iconst S967.here hx rfl (hb hby at_199) q)))))) ?_
          show G T967 (mkF m 200 #[iv q0, iv q1, iv 3, iv ca, iv cb, iv cc, iv pt, rv x811, rv x819, iv f9, rv x966, iv 1, .unset] [(.int 1), (.int 3)])
          refine hG.st (fun _ q => XS.icmpNo S967.here hx rfl (hb hby at_200) rfl (tlt (by decide : (1 : Int32) < (3 : Int32))).2.2.2 (XS.aload S967.here hx rfl (hb hby at_203) rfl rfl (XS.iload S967.here hx rfl (hb hby at_205) rfl (XS.iload S967.here hx rfl (hb hby at_207) rfl q)))) ?_
          show G T967 (mkF m 209 #[iv q0, iv q1, iv 3, iv ca, iv cb, iv cc, iv pt, rv x811, rv x819, iv f9, rv x966, iv 1, .unset] [(.int cb), (.int 1), (.ref x966)])
          refine Own.Sit.stC hG S967 hx V967 ga_x966 ⟨by decide, by decide⟩ 1 rfl (Nat.le_of_ble_eq_true rfl) rfl rfl (hb hby at_209) (fun T968 h968 S968 J968 (V968 : Arv Z h968 x966 k966 .char (11 : Int32) [(.int ca), (.int (nar .char cb)), (.int 0), (.int 0), (.int 0), (.int 0), (.int 0), (.int 0), (.int 0), (.int 0), (.int 0)] (.int 0)) => ?_)
          rw [own_narC r_cb] at V968
          refine hG.st (fun _ q => XS.iload S968.here hx rfl (hb hby at_210) rfl (XS.iconst S968.here hx rfl (hb hby at_212) (XS.iadd S968.here hx rfl (hb hby at_213) rfl (XS.istore S968.here hx rfl (hb hby at_214) rfl (l' := #[iv q0, iv q1, iv 3, iv ca, iv cb, iv cc, iv pt, rv x811, rv x819, iv f9, rv x966, iv 2, .unset]) rfl (XS.iloadN S968.here hx rfl (hb hby at_216) rfl (XS.iconst S968.here hx rfl (hb hby at_217) q)))))) ?_
          show G T968 (mkF m 218 #[iv q0, iv q1, iv 3, iv ca, iv cb, iv cc, iv pt, rv x811, rv x819, iv f9, rv x966, iv 2, .unset] [(.int 2), (.int 3)])
          refine hG.st (fun _ q => XS.icmpNo S968.here hx rfl (hb hby at_218) rfl (tlt (by decide : (2 : Int32) < (3 : Int32))).2.2.2 (XS.aload S968.here hx rfl (hb hby at_221) rfl rfl (XS.iload S968.here hx rfl (hb hby at_223) rfl (XS.iload S968.here hx rfl (hb hby at_225) rfl q)))) ?_
          show G T968 (mkF m 227 #[iv q0, iv q1, iv 3, iv ca, iv cb, iv cc, iv pt, rv x811, rv x819, iv f9, rv x966, iv 2, .unset] [(.int cc), (.int 2), (.ref x966)])
          refine Own.Sit.stC hG S968 hx V968 ga_x966 ⟨by decide, by decide⟩ 2 rfl (Nat.le_of_ble_eq_true rfl) rfl rfl (hb hby at_227) (fun T969 h969 S969 J969 (V969 : Arv Z h969 x966 k966 .char (11 : Int32) [(.int ca), (.int cb), (.int (nar .char cc)), (.int 0), (.int 0), (.int 0), (.int 0), (.int 0), (.int 0), (.int 0), (.int 0)] (.int 0)) => ?_)
          rw [own_narC r_cc] at V969
          refine hG.st (fun _ q => XS.iload S969.here hx rfl (hb hby at_228) rfl (XS.iconst S969.here hx rfl (hb hby at_230) (XS.iadd S969.here hx rfl (hb hby at_231) rfl (XS.istore S969.here hx rfl (hb hby at_232) rfl (l' := #[iv q0, iv q1, iv 3, iv ca, iv cb, iv cc, iv pt, rv x811, rv x819, iv f9, rv x966, iv 3, .unset]) rfl (XS.iload S969.here hx rfl (hb hby at_234) rfl (XS.ifYes S969.here hx rfl (pc0 := 236) (pc' := 252) rfl (hb hby at_236) rfl ((if0 _ _).trans (teq (hc166 : f9 = (0 : Int32))).1) (by decide) (by decide) q)))))) ?_
          show G T969 (mkF m 252 #[iv q0, iv q1, iv 3, iv ca, iv cb, iv cc, iv pt, rv x811, rv x819, iv f9, rv x966, iv 3, .unset] [])
          refine hG.st (fun _ q => XS.aload S969.here hx rfl (hb hby at_252) rfl rfl (XS.iload S969.here hx rfl (hb hby at_254) rfl (XS.bipush S969.here hx rfl (hb hby at_256) q))) ?_
          show G T969 (mkF m 258 #[iv q0, iv q1, iv 3, iv ca, iv cb, iv cc, iv pt, rv x811, rv x819, iv f9, rv x966, iv 3, .unset] [(.int 58), (.int 3), (.ref x966)])
          refine Own.Sit.stC hG S969 hx V969 ga_x966 ⟨by decide, by decide⟩ 3 rfl (Nat.le_of_ble_eq_true rfl) rfl rfl (hb hby at_258) (fun T970 h970 S970 J970 (V970 : Arv Z h970 x966 k966 .char (11 : Int32) [(.int ca), (.int cb), (.int cc), (.int 58), (.int 0), (.int 0), (.int 0), (.int 0), (.int 0), (.int 0), (.int 0)] (.int 0)) => ?_)
          refine hG.st (fun _ q => XS.iload S970.here hx rfl (hb hby at_259) rfl (XS.iconst S970.here hx rfl (hb hby at_261) (XS.iadd S970.here hx rfl (hb hby at_262) rfl (XS.istore S970.here hx rfl (hb hby at_263) rfl (l' := #[iv q0, iv q1, iv 3, iv ca, iv cb, iv cc, iv pt, rv x811, rv x819, iv f9, rv x966, iv 4, .unset]) rfl q)))) ?_
          show G T970 (mkF m 265 #[iv q0, iv q1, iv 3, iv ca, iv cb, iv cc, iv pt, rv x811, rv x819, iv f9, rv x966, iv 4, .unset] [])
          have hs971 : own_host cs811 = [ca, cb, cc] := by rw [hck]; exact (own_hostN (by rw [← hck]; exact own_c0 hf hc166)).symm
          have J972 : Own.Stp Z consts_1 vm819 h819 vm965 h966 [] := Own.Stp.trans J965 J966 (all0) all0
          have J973 : Own.Stp Z consts_1 vm819 h819 vm965 h967 [] := Own.Stp.trans J972 J967 (all0) (allS (Or.inr (Nat.le_trans J965.1.1 (Nat.le_of_eq g_x966.symm))) all0)
          have J974 : Own.Stp Z consts_1 vm819 h819 vm965 h968 [] := Own.Stp.trans J973 J968 (all0) (allS (Or.inr (Nat.le_trans J965.1.1 (Nat.le_of_eq g_x966.symm))) all0)
          have J975 : Own.Stp Z consts_1 vm819 h819 vm965 h969 [] := Own.Stp.trans J974 J969 (all0) (allS (Or.inr (Nat.le_trans J965.1.1 (Nat.le_of_eq g_x966.symm))) all0)
          have J976 : Own.Stp Z consts_1 vm819 h819 vm965 h970 [] := Own.Stp.trans J975 J970 (all0) (allS (Or.inr (Nat.le_trans J965.1.1 (Nat.le_of_eq g_x966.symm))) all0)
          exact JD vm965 T970 h970 (3 : Int32) f9 x966 k966 ([ca, cb, cc, (58 : Int32), (0 : Int32), (0 : Int32), (0 : Int32), (0 : Int32), (0 : Int32), (0 : Int32), (0 : Int32)] : List Int32) 4 (S970.mono (by decide) (by decide)) J976 V970 rfl ga_x966 (Nat.le_trans J965.1.1 (Nat.le_of_eq g_x966.symm)) (by rw [hs971]; rfl) (by rw [hs971]; rfl)
        ·
          refine hG.st (fun _ q => XS.ifNo S966.here hx rfl (hb hby at_166) rfl ((if0 _ _).trans (feq hc166).1) (XS.aload S966.here hx rfl (hb hby at_169) rfl rfl (XS.iload S966.here hx rfl (hb hby at_171) rfl (XS.bipush S966.here hx rfl (hb hby at_173) q)))) ?_
          show G T966 (mkF m 175 #[iv q0, iv q1, iv 3, iv ca, iv cb, iv cc, iv pt, rv x811, rv x819, iv f9, rv x966, iv 0, .unset] [(.int 91), (.int 0), (.ref x966)])
          refine Own.Sit.stC hG S966 hx V966 ga_x966 ⟨by decide, by decide⟩ 0 rfl (Nat.le_of_ble_eq_true rfl) rfl rfl (hb hby at_175) (fun T977 h977 S977 J977 (V977 : Arv Z h977 x966 k966 .char (11 : Int32) [(.int 91), (.int 0), (.int 0), (.int 0), (.int 0), (.int 0), (.int 0), (.int 0), (.int 0), (.int 0), (.int 0)] (.int 0)) => ?_)
          refine hG.st (fun _ q => XS.iload S977.here hx rfl (hb hby at_176) rfl (XS.iconst S977.here hx rfl (hb hby at_178) (XS.iadd S977.here hx rfl (hb hby at_179) rfl (XS.istore S977.here hx rfl (hb hby at_180) rfl (l' := #[iv q0, iv q1, iv 3, iv ca, iv cb, iv cc, iv pt, rv x811, rv x819, iv f9, rv x966, iv 1, .unset]) rfl (XS.iloadN S977.here hx rfl (hb hby at_182) rfl (XS.ifNo S977.here hx rfl (hb hby at_183) rfl ((if0 _ _).trans (tlt (by decide : (0 : Int32) < (3 : Int32))).2.2.2) q)))))) ?_
          show G T977 (mkF m 186 #[iv q0, iv q1, iv 3, iv ca, iv cb, iv cc, iv pt, rv x811, rv x819, iv f9, rv x966, iv 1, .unset] [])
          refine hG.st (fun _ q => XS.aload S977.here hx rfl (hb hby at_186) rfl rfl (XS.iload S977.here hx rfl (hb hby at_188) rfl (XS.iloadN S977.here hx rfl (hb hby at_190) rfl q))) ?_
          show G T977 (mkF m 191 #[iv q0, iv q1, iv 3, iv ca, iv cb, iv cc, iv pt, rv x811, rv x819, iv f9, rv x966, iv 1, .unset] [(.int ca), (.int 1), (.ref x966)])
          refine Own.Sit.stC hG S977 hx V977 ga_x966 ⟨by decide, by decide⟩ 1 rfl (Nat.le_of_ble_eq_true rfl) rfl rfl (hb hby at_191) (fun T978 h978 S978 J978 (V978 : Arv Z h978 x966 k966 .char (11 : Int32) [(.int 91), (.int (nar .char ca)), (.int 0), (.int 0), (.int 0), (.int 0), (.int 0), (.int 0), (.int 0), (.int 0), (.int 0)] (.int 0)) => ?_)
          rw [own_narC r_ca] at V978
          refine hG.st (fun _ q => XS.iload S978.here hx rfl (hb hby at_192) rfl (XS.iconst S978.here hx rfl (hb hby at_194) (XS.iadd S978.here hx rfl (hb hby at_195) rfl (XS.istore S978.here hx rfl (hb hby at_196) rfl (l' := #[iv q0, iv q1, iv 3, iv ca, iv cb, iv cc, iv pt, rv x811, rv x819, iv f9, rv x966, iv 2, .unset]) rfl (XS.iloadN S978.here hx rfl (hb hby at_198) rfl (XS.iconst S978.here hx rfl (hb hby at_199) q)))))) ?_
          show G T978 (mkF m 200 #[iv q0, iv q1, iv 3, iv ca, iv cb, iv cc, iv pt, rv x811, rv x819, iv f9, rv x966, iv 2, .unset] [(.int 1), (.int 3)])
          refine hG.st (fun _ q => XS.icmpNo S978.here hx rfl (hb hby at_200) rfl (tlt (by decide : (1 : Int32) < (3 : Int32))).2.2.2 (XS.aload S978.here hx rfl (hb hby at_203) rfl rfl (XS.iload S978.here hx rfl (hb hby at_205) rfl (XS.iload S978.here hx rfl (hb hby at_207) rfl q)))) ?_
          show G T978 (mkF m 209 #[iv q0, iv q1, iv 3, iv ca, iv cb, iv cc, iv pt, rv x811, rv x819, iv f9, rv x966, iv 2, .unset] [(.int cb), (.int 2), (.ref x966)])
          refine Own.Sit.stC hG S978 hx V978 ga_x966 ⟨by decide, by decide⟩ 2 rfl (Nat.le_of_ble_eq_true rfl) rfl rfl (hb hby at_209) (fun T979 h979 S979 J979 (V979 : Arv Z h979 x966 k966 .char (11 : Int32) [(.int 91), (.int ca), (.int (nar .char cb)), (.int 0), (.int 0), (.int 0), (.int 0), (.int 0), (.int 0), (.int 0), (.int 0)] (.int 0)) => ?_)
          rw [own_narC r_cb] at V979
          refine hG.st (fun _ q => XS.iload S979.here hx rfl (hb hby at_210) rfl (XS.iconst S979.here hx rfl (hb hby at_212) (XS.iadd S979.here hx rfl (hb hby at_213) rfl (XS.istore S979.here hx rfl (hb hby at_214) rfl (l' := #[iv q0, iv q1, iv 3, iv ca, iv cb, iv cc, iv pt, rv x811, rv x819, iv f9, rv x966, iv 3, .unset]) rfl (XS.iloadN S979.here hx rfl (hb hby at_216) rfl (XS.iconst S979.here hx rfl (hb hby at_217) q)))))) ?_
          show G T979 (mkF m 218 #[iv q0, iv q1, iv 3, iv ca, iv cb, iv cc, iv pt, rv x811, rv x819, iv f9, rv x966, iv 3, .unset] [(.int 2), (.int 3)])
          refine hG.st (fun _ q => XS.icmpNo S979.here hx rfl (hb hby at_218) rfl (tlt (by decide : (2 : Int32) < (3 : Int32))).2.2.2 (XS.aload S979.here hx rfl (hb hby at_221) rfl rfl (XS.iload S979.here hx rfl (hb hby at_223) rfl (XS.iload S979.here hx rfl (hb hby at_225) rfl q)))) ?_
          show G T979 (mkF m 227 #[iv q0, iv q1, iv 3, iv ca, iv cb, iv cc, iv pt, rv x811, rv x819, iv f9, rv x966, iv 3, .unset] [(.int cc), (.int 3), (.ref x966)])
          refine Own.Sit.stC hG S979 hx V979 ga_x966 ⟨by decide, by decide⟩ 3 rfl (Nat.le_of_ble_eq_true rfl) rfl rfl (hb hby at_227) (fun T980 h980 S980 J980 (V980 : Arv Z h980 x966 k966 .char (11 : Int32) [(.int 91), (.int ca), (.int cb), (.int (nar .char cc)), (.int 0), (.int 0), (.int 0), (.int 0), (.int 0), (.int 0), (.int 0)] (.int 0)) => ?_)
          rw [own_narC r_cc] at V980
          refine hG.st (fun _ q => XS.iload S980.here hx rfl (hb hby at_228) rfl (XS.iconst S980.here hx rfl (hb hby at_230) (XS.iadd S980.here hx rfl (hb hby at_231) rfl (XS.istore S980.here hx rfl (hb hby at_232) rfl (l' := #[iv q0, iv q1, iv 3, iv ca, iv cb, iv cc, iv pt, rv x811, rv x819, iv f9, rv x966, iv 4, .unset]) rfl (XS.iload S980.here hx rfl (hb hby at_234) rfl (XS.ifNo S980.here hx rfl (hb hby at_236) rfl ((if0 _ _).trans (feq (hc166 : ¬ (f9 = (0 : Int32)))).1) q)))))) ?_
          show G T980 (mkF m 239 #[iv q0, iv q1, iv 3, iv ca, iv cb, iv cc, iv pt, rv x811, rv x819, iv f9, rv x966, iv 4, .unset] [])
          refine hG.st (fun _ q => XS.aload S980.here hx rfl (hb hby at_239) rfl rfl (XS.iload S980.here hx rfl (hb hby at_241) rfl (XS.bipush S980.here hx rfl (hb hby at_243) q))) ?_
          show G T980 (mkF m 245 #[iv q0, iv q1, iv 3, iv ca, iv cb, iv cc, iv pt, rv x811, rv x819, iv f9, rv x966, iv 4, .unset] [(.int 93), (.int 4), (.ref x966)])
          refine Own.Sit.stC hG S980 hx V980 ga_x966 ⟨by decide, by decide⟩ 4 rfl (Nat.le_of_ble_eq_true rfl) rfl rfl (hb hby at_245) (fun T981 h981 S981 J981 (V981 : Arv Z h981 x966 k966 .char (11 : Int32) [(.int 91), (.int ca), (.int cb), (.int cc), (.int 93), (.int 0), (.int 0), (.int 0), (.int 0), (.int 0), (.int 0)] (.int 0)) => ?_)
          refine hG.st (fun _ q => XS.iload S981.here hx rfl (hb hby at_246) rfl (XS.iconst S981.here hx rfl (hb hby at_248) (XS.iadd S981.here hx rfl (hb hby at_249) rfl (XS.istore S981.here hx rfl (hb hby at_250) rfl (l' := #[iv q0, iv q1, iv 3, iv ca, iv cb, iv cc, iv pt, rv x811, rv x819, iv f9, rv x966, iv 5, .unset]) rfl (XS.aload S981.here hx rfl (hb hby at_252) rfl rfl (XS.iload S981.here hx rfl (hb hby at_254) rfl q)))))) ?_
          show G T981 (mkF m 256 #[iv q0, iv q1, iv 3, iv ca, iv cb, iv cc, iv pt, rv x811, rv x819, iv f9, rv x966, iv 5, .unset] [(.int 5), (.ref x966)])
          refine hG.st (fun _ q => XS.bipush S981.here hx rfl (hb hby at_256) q) ?_
          show G T981 (mkF m 258 #[iv q0, iv q1, iv 3, iv ca, iv cb, iv cc, iv pt, rv x811, rv x819, iv f9, rv x966, iv 5, .unset] [(.int 58), (.int 5), (.ref x966)])
          refine Own.Sit.stC hG S981 hx V981 ga_x966 ⟨by decide, by decide⟩ 5 rfl (Nat.le_of_ble_eq_true rfl) rfl rfl (hb hby at_258) (fun T982 h982 S982 J982 (V982 : Arv Z h982 x966 k966 .char (11 : Int32) [(.int 91), (.int ca), (.int cb), (.int cc), (.int 93), (.int 58), (.int 0), (.int 0), (.int 0), (.int 0), (.int 0)] (.int 0)) => ?_)
          refine hG.st (fun _ q => XS.iload S982.here hx rfl (hb hby at_259) rfl (XS.iconst S982.here hx rfl (hb hby at_261) (XS.iadd S982.here hx rfl (hb hby at_262) rfl (XS.istore S982.here hx rfl (hb hby at_263) rfl (l' := #[iv q0, iv q1, iv 3, iv ca, iv cb, iv cc, iv pt, rv x811, rv x819, iv f9, rv x966, iv 6, .unset]) rfl q)))) ?_
          show G T982 (mkF m 265 #[iv q0, iv q1, iv 3, iv ca, iv cb, iv cc, iv pt, rv x811, rv x819, iv f9, rv x966, iv 6, .unset] [])
          have hs983 : own_host cs811 = [(91 : Int32), ca, cb, cc, (93 : Int32)] := by rw [hck]; exact (own_hostY (by rw [← hck]; exact own_c1 hf hc166)).symm
          have J984 : Own.Stp Z consts_1 vm819 h819 vm965 h966 [] := Own.Stp.trans J965 J966 (all0) all0
          have J985 : Own.Stp Z consts_1 vm819 h819 vm965 h977 [] := Own.Stp.trans J984 J977 (all0) (allS (Or.inr (Nat.le_trans J965.1.1 (Nat.le_of_eq g_x966.symm))) all0)
          have J986 : Own.Stp Z consts_1 vm819 h819 vm965 h978 [] := Own.Stp.trans J985 J978 (all0) (allS (Or.inr (Nat.le_trans J965.1.1 (Nat.le_of_eq g_x966.symm))) all0)
          have J987 : Own.Stp Z consts_1 vm819 h819 vm965 h979 [] := Own.Stp.trans J986 J979 (all0) (allS (Or.inr (Nat.le_trans J965.1.1 (Nat.le_of_eq g_x966.symm))) all0)
          have J988 : Own.Stp Z consts_1 vm819 h819 vm965 h980 [] := Own.Stp.trans J987 J980 (all0) (allS (Or.inr (Nat.le_trans J965.1.1 (Nat.le_of_eq g_x966.symm))) all0)
          have J989 : Own.Stp Z consts_1 vm819 h819 vm965 h981 [] := Own.Stp.trans J988 J981 (all0) (allS (Or.inr (Nat.le_trans J965.1.1 (Nat.le_of_eq g_x966.symm))) all0)
          have J990 : Own.Stp Z consts_1 vm819 h819 vm965 h982 [] := Own.Stp.trans J989 J982 (all0) (allS (Or.inr (Nat.le_trans J965.1.1 (Nat.le_of_eq g_x966.symm))) all0)
          exact JD vm965 T982 h982 (3 : Int32) f9 x966 k966 ([(91 : Int32), ca, cb, cc, (93 : Int32), (58 : Int32), (0 : Int32), (0 : Int32), (0 : Int32), (0 : Int32), (0 : Int32)] : List Int32) 6 (S982.mono (by decide) (by decide)) J990 V982 rfl ga_x966 (Nat.le_trans J965.1.1 (Nat.le_of_eq g_x966.symm)) (by rw [hs983]; rfl) (by rw [hs983]; rfl)
      refine hG.st (fun _ q => XS.iloadN S819.here hx rfl (hb hby at_114) rfl (XS.ifNo S819.here hx rfl (hb hby at_115) rfl ((if0 _ _).trans (tlt (by decide : (0 : Int32) < (3 : Int32))).2.2.2) (XS.iloadN S819.here hx rfl (hb hby at_118) rfl (XS.bipush S819.here hx rfl (hb hby at_119) q)))) ?_
      show G T819 (mkF m 121 #[iv q0, iv q1, iv 3, iv ca, iv cb, iv cc, iv pt, rv x811, rv x819, .unset, .unset, .unset, .unset] [(.int 58), (.int ca)])
      by_cases hc121 : ca = (58 : Int32)
      ·
        refine hG.st (fun _ q => XS.icmpYes S819.here hx rfl (pc0 := 121) (pc' := 148) rfl (hb hby at_121) rfl (teq hc121).1 (by decide) (by decide) (XS.iconst S819.here hx rfl (hb hby at_148) (XS.goto S819.here hx rfl (pc0 := 149) (pc' := 153) rfl (hb hby at_149) (by decide) (by decide) q))) ?_
        show G T819 (mkF m 153 #[iv q0, iv q1, iv 3, iv ca, iv cb, iv cc, iv pt, rv x811, rv x819, .unset, .unset, .unset, .unset] [(.int 1)])
        exact JF vm819 T819 h819 (1 : Int32) (S819.mono (by decide) (by decide)) (Own.Stp.mono (Own.Stp.refl S819.ch) all0) (Or.inl ⟨rfl, by rw [hck]; exact (List.mem_cons.mpr (Or.inl hc121.symm))⟩)
      ·
        refine hG.st (fun _ q => XS.icmpNo S819.here hx rfl (hb hby at_121) rfl (feq hc121).1 (XS.iloadN S819.here hx rfl (hb hby at_124) rfl (XS.iconst S819.here hx rfl (hb hby at_125) (XS.icmpNo S819.here hx rfl (hb hby at_126) rfl (tlt (by decide : (1 : Int32) < (3 : Int32))).2.2.2 (XS.iload S819.here hx rfl (hb hby at_129) rfl (XS.bipush S819.here hx rfl (hb hby at_131) q)))))) ?_
        show G T819 (mkF m 133 #[iv q0, iv q1, iv 3, iv ca, iv cb, iv cc, iv pt, rv x811, rv x819, .unset, .unset, .unset, .unset] [(.int 58), (.int cb)])
        by_cases hc133 : cb = (58 : Int32)
        ·
          refine hG.st (fun _ q => XS.icmpYes S819.here hx rfl (pc0 := 133) (pc' := 148) rfl (hb hby at_133) rfl (teq hc133).1 (by decide) (by decide) (XS.iconst S819.here hx rfl (hb hby at_148) (XS.goto S819.here hx rfl (pc0 := 149) (pc' := 153) rfl (hb hby at_149) (by decide) (by decide) q))) ?_
          show G T819 (mkF m 153 #[iv q0, iv q1, iv 3, iv ca, iv cb, iv cc, iv pt, rv x811, rv x819, .unset, .unset, .unset, .unset] [(.int 1)])
          exact JF vm819 T819 h819 (1 : Int32) (S819.mono (by decide) (by decide)) (Own.Stp.mono (Own.Stp.refl S819.ch) all0) (Or.inl ⟨rfl, by rw [hck]; exact (List.mem_cons_of_mem _ (List.mem_cons.mpr (Or.inl hc133.symm)))⟩)
        ·
          refine hG.st (fun _ q => XS.icmpNo S819.here hx rfl (hb hby at_133) rfl (feq hc133).1 (XS.iloadN S819.here hx rfl (hb hby at_136) rfl (XS.iconst S819.here hx rfl (hb hby at_137) (XS.icmpNo S819.here hx rfl (hb hby at_138) rfl (tlt (by decide : (2 : Int32) < (3 : Int32))).2.2.2 (XS.iload S819.here hx rfl (hb hby at_141) rfl (XS.bipush S819.here hx rfl (hb hby at_143) q)))))) ?_
          show G T819 (mkF m 145 #[iv q0, iv q1, iv 3, iv ca, iv cb, iv cc, iv pt, rv x811, rv x819, .unset, .unset, .unset, .unset] [(.int 58), (.int cc)])
          by_cases hc145 : cc = (58 : Int32)
          ·
            refine hG.st (fun _ q => XS.icmpNo S819.here hx rfl (hb hby at_145) rfl (teq hc145).2 (XS.iconst S819.here hx rfl (hb hby at_148) (XS.goto S819.here hx rfl (pc0 := 149) (pc' := 153) rfl (hb hby at_149) (by decide) (by decide) q))) ?_
            show G T819 (mkF m 153 #[iv q0, iv q1, iv 3, iv ca, iv cb, iv cc, iv pt, rv x811, rv x819, .unset, .unset, .unset, .unset] [(.int 1)])
            exact JF vm819 T819 h819 (1 : Int32) (S819.mono (by decide) (by decide)) (Own.Stp.mono (Own.Stp.refl S819.ch) all0) (Or.inl ⟨rfl, by rw [hck]; exact (List.mem_cons_of_mem _ (List.mem_cons_of_mem _ (List.mem_cons.mpr (Or.inl hc145.symm))))⟩)
          ·
            refine hG.st (fun _ q => XS.icmpYes S819.here hx rfl (pc0 := 145) (pc' := 152) rfl (hb hby at_145) rfl (feq hc145).2 (by decide) (by decide) (XS.iconst S819.here hx rfl (hb hby at_152) q)) ?_
            show G T819 (mkF m 153 #[iv q0, iv q1, iv 3, iv ca, iv cb, iv cc, iv pt, rv x811, rv x819, .unset, .unset, .unset, .unset] [(.int 0)])
            exact JF vm819 T819 h819 (0 : Int32) (S819.mono (by decide) (by decide)) (Own.Stp.mono (Own.Stp.refl S819.ch) all0) (Or.inr ⟨rfl, by rw [hck]; exact (fun q => (List.mem_cons.mp q).elim (fun z => hc121 z.symm) (fun q => (List.mem_cons.mp q).elim (fun z => hc133 z.symm) (fun q => (List.mem_cons.mp q).elim (fun z => hc145 z.symm) (fun q => absurd q List.not_mem_nil))))⟩)
  refine hG.st (fun _ q => XS.iloadN S0.here hx rfl (hb hby at_36) rfl (XS.bipush S0.here hx rfl (hb hby at_37) (XS.iushr S0.here hx rfl (hb hby at_39) rfl (XS.iconst S0.here hx rfl (hb hby at_40) (XS.iand S0.here hx rfl (hb hby at_41) rfl q))))) ?_
  show G T0 (mkF m 42 #[iv q0, iv q1, iv n2, iv a3, iv a4, iv a5, .unset, .unset, .unset, .unset, .unset, .unset, .unset] [(.int (((q0.toUInt32 >>> ((26 : Int32) &&& 31).toUInt32).toInt32) &&& (1 : Int32)))])
  by_cases hc42 : (((q0.toUInt32 >>> ((26 : Int32) &&& 31).toUInt32).toInt32) &&& (1 : Int32)) = (0 : Int32)
  ·
    refine hG.st (fun _ q => XS.ifYes S0.here hx rfl (pc0 := 42) (pc' := 81) rfl (hb hby at_42) rfl ((if0 _ _).trans (teq hc42).1) (by decide) (by decide) q) ?_
    show G T0 (mkF m 81 #[iv q0, iv q1, iv n2, iv a3, iv a4, iv a5, .unset, .unset, .unset, .unset, .unset, .unset, .unset] [])
    exact JA vm0 T0 h0 a3 a4 a5 .unset (S0.mono (by decide) (by decide)) (Own.Stp.mono (Own.Stp.refl S0.ch) all0) ra3 ra4 ra5 One.u
  ·
    refine hG.st (fun _ q => XS.ifNo S0.here hx rfl (hb hby at_42) rfl ((if0 _ _).trans (feq hc42).1) (XS.iloadN S0.here hx rfl (hb hby at_45) rfl (XS.bipush S0.here hx rfl (hb hby at_46) (XS.iushr S0.here hx rfl (hb hby at_48) rfl (XS.iconst S0.here hx rfl (hb hby at_49) (XS.iand S0.here hx rfl (hb hby at_50) rfl q)))))) ?_
    show G T0 (mkF m 51 #[iv q0, iv q1, iv n2, iv a3, iv a4, iv a5, .unset, .unset, .unset, .unset, .unset, .unset, .unset] [(.int (((q0.toUInt32 >>> ((27 : Int32) &&& 31).toUInt32).toInt32) &&& (3 : Int32)))])
    refine hG.st (fun _ q => XS.istore S0.here hx rfl (hb hby at_51) rfl (l' := #[iv q0, iv q1, iv n2, iv a3, iv a4, iv a5, iv (((q0.toUInt32 >>> ((27 : Int32) &&& 31).toUInt32).toInt32) &&& (3 : Int32)), .unset, .unset, .unset, .unset, .unset, .unset]) rfl (XS.iload S0.here hx rfl (hb hby at_53) rfl q)) ?_
    show G T0 (mkF m 55 #[iv q0, iv q1, iv n2, iv a3, iv a4, iv a5, iv (((q0.toUInt32 >>> ((27 : Int32) &&& 31).toUInt32).toInt32) &&& (3 : Int32)), .unset, .unset, .unset, .unset, .unset, .unset] [(.int (((q0.toUInt32 >>> ((27 : Int32) &&& 31).toUInt32).toInt32) &&& (3 : Int32)))])
    by_cases hc55 : (((q0.toUInt32 >>> ((27 : Int32) &&& 31).toUInt32).toInt32) &&& (3 : Int32)) = (0 : Int32)
    ·
      refine hG.st (fun _ q => XS.ifNo S0.here hx rfl (hb hby at_55) rfl ((if0 _ _).trans (teq hc55).2) (XS.bipush S0.here hx rfl (hb hby at_58) (XS.istoreN S0.here hx rfl (hb hby at_60) rfl (l' := #[iv q0, iv q1, iv n2, iv 58, iv a4, iv a5, iv (((q0.toUInt32 >>> ((27 : Int32) &&& 31).toUInt32).toInt32) &&& (3 : Int32)), .unset, .unset, .unset, .unset, .unset, .unset]) rfl (XS.goto S0.here hx rfl (pc0 := 61) (pc' := 81) rfl (hb hby at_61) (by decide) (by decide) q)))) ?_
      show G T0 (mkF m 81 #[iv q0, iv q1, iv n2, iv 58, iv a4, iv a5, iv (((q0.toUInt32 >>> ((27 : Int32) &&& 31).toUInt32).toInt32) &&& (3 : Int32)), .unset, .unset, .unset, .unset, .unset, .unset] [])
      exact JA vm0 T0 h0 (58 : Int32) a4 a5 (.val (.int (((q0.toUInt32 >>> ((27 : Int32) &&& 31).toUInt32).toInt32) &&& (3 : Int32)))) (S0.mono (by decide) (by decide)) (Own.Stp.mono (Own.Stp.refl S0.ch) all0) (by decide) ra4 ra5 (One.val rfl)
    ·
      refine hG.st (fun _ q => XS.ifYes S0.here hx rfl (pc0 := 55) (pc' := 64) rfl (hb hby at_55) rfl ((if0 _ _).trans (feq hc55).2) (by decide) (by decide) (XS.iload S0.here hx rfl (hb hby at_64) rfl (XS.iconst S0.here hx rfl (hb hby at_66) q))) ?_
      show G T0 (mkF m 67 #[iv q0, iv q1, iv n2, iv a3, iv a4, iv a5, iv (((q0.toUInt32 >>> ((27 : Int32) &&& 31).toUInt32).toInt32) &&& (3 : Int32)), .unset, .unset, .unset, .unset, .unset, .unset] [(.int 1), (.int (((q0.toUInt32 >>> ((27 : Int32) &&& 31).toUInt32).toInt32) &&& (3 : Int32)))])
      by_cases hc67 : (((q0.toUInt32 >>> ((27 : Int32) &&& 31).toUInt32).toInt32) &&& (3 : Int32)) = (1 : Int32)
      ·
        refine hG.st (fun _ q => XS.icmpNo S0.here hx rfl (hb hby at_67) rfl (teq hc67).2 (XS.bipush S0.here hx rfl (hb hby at_70) (XS.istore S0.here hx rfl (hb hby at_72) rfl (l' := #[iv q0, iv q1, iv n2, iv a3, iv 58, iv a5, iv (((q0.toUInt32 >>> ((27 : Int32) &&& 31).toUInt32).toInt32) &&& (3 : Int32)), .unset, .unset, .unset, .unset, .unset, .unset]) rfl (XS.goto S0.here hx rfl (pc0 := 74) (pc' := 81) rfl (hb hby at_74) (by decide) (by decide) q)))) ?_
        show G T0 (mkF m 81 #[iv q0, iv q1, iv n2, iv a3, iv 58, iv a5, iv (((q0.toUInt32 >>> ((27 : Int32) &&& 31).toUInt32).toInt32) &&& (3 : Int32)), .unset, .unset, .unset, .unset, .unset, .unset] [])
        exact JA vm0 T0 h0 a3 (58 : Int32) a5 (.val (.int (((q0.toUInt32 >>> ((27 : Int32) &&& 31).toUInt32).toInt32) &&& (3 : Int32)))) (S0.mono (by decide) (by decide)) (Own.Stp.mono (Own.Stp.refl S0.ch) all0) ra3 (by decide) ra5 (One.val rfl)
      ·
        refine hG.st (fun _ q => XS.icmpYes S0.here hx rfl (pc0 := 67) (pc' := 77) rfl (hb hby at_67) rfl (feq hc67).2 (by decide) (by decide) (XS.bipush S0.here hx rfl (hb hby at_77) (XS.istore S0.here hx rfl (hb hby at_79) rfl (l' := #[iv q0, iv q1, iv n2, iv a3, iv a4, iv 58, iv (((q0.toUInt32 >>> ((27 : Int32) &&& 31).toUInt32).toInt32) &&& (3 : Int32)), .unset, .unset, .unset, .unset, .unset, .unset]) rfl q))) ?_
        show G T0 (mkF m 81 #[iv q0, iv q1, iv n2, iv a3, iv a4, iv 58, iv (((q0.toUInt32 >>> ((27 : Int32) &&& 31).toUInt32).toInt32) &&& (3 : Int32)), .unset, .unset, .unset, .unset, .unset, .unset] [])
        exact JA vm0 T0 h0 a3 a4 (58 : Int32) (.val (.int (((q0.toUInt32 >>> ((27 : Int32) &&& 31).toUInt32).toInt32) &&& (3 : Int32)))) (S0.mono (by decide) (by decide)) (Own.Stp.mono (Own.Stp.refl S0.ch) all0) ra3 ra4 (by decide) (One.val rfl)
theorem own_tbl {s : State} {args : Array Value} {u rhs : Term} {F : Nat → Int32} (hu : ∀ idx, u.eval args s none idx s = u.eval args s none [] s) (hrhs : ∀ r, r < 100 → rhs.eval args s none [r] s = some (.int (F r))) (hf : Fit s)
    (hx : (Jvm.Cond.exactly u "[B").before args s = true) (hl : (Jvm.Cond.eq (.length u) (.int 100)).before args s = true) (ha : (Jvm.Cond.all u (.eq (.elem u (.index 0)) rhs)).before args s = true) (hc : (Jvm.Cond.arrayClass .byte).before args s = true) :
    ∃ d kc, u.eval args s none [] s = some (.ref d) ∧ Arv s s.heap d kc .byte (100 : Int32) ((List.range 100).map fun i => .int (F i)) (.int 0) := by
  obtain ⟨d, cB, D, kB, hev, hfcB, hcellD, hkB, hstatD, hclsD, -⟩ := Cond.exactly_spec hx
  have hlen := Cond.eq_int hl rfl
  obtain ⟨d', D', hev', harrAt, hlen'⟩ := Term.length_spec hlen
  cases hev.symm.trans hev'
  obtain ⟨hcellD', hknD, -, -⟩ := State.arrayAt?_spec harrAt
  cases hcellD.symm.trans hcellD'
  have h31 := SBG.length_lt hev harrAt hlen
  have hsz : D.slots.size = 100 := by
    have h2 : (100 : Int32) = Int32.ofNat D.slots.size := by injection hlen'
    have := congrArg Int32.toInt h2
    rw [Int32.toInt_ofNat_small h31] at this
    have e : (100 : Int32).toInt = 100 := rfl
    omega
  obtain ⟨cB', kB', comp, hnameB, hkB', hkindB⟩ := Cond.arrayClass_spec hc
  have eBA : ("[" ++ FieldType.toString .byte) = "[B" := by decide
  rw [eBA] at hnameB
  cases hfcB.symm.trans hnameB
  cases hkB.symm.trans hkB'
  have A : Arr s s.heap d D .byte := ⟨hcellD, ⟨(fun q h => by rw [h] at hstatD; cases hstatD), kB, (by rw [hclsD]; exact hkB), comp, hkindB⟩, hknD⟩
  have hel : ∀ r, r < 100 → D.slots[r]? = some (.int (F r)) := fun r hr => by
    have h := Cond.all_elim hev harrAt (AList.val_of_holds ha) r (by omega)
    have eL : (Term.elem u (.index 0)).eval args s none [r] s = D.slots[r]? := SBG.elem_at (ix := .index 0) ((hu [r]).trans hev) harrAt (by omega) (by omega) rfl
    obtain ⟨x, y, h1, h2, h3, h4⟩ := cmp_v (Or.inl h)
    cases h2.symm.trans (hrhs r hr)
    obtain ⟨w, rfl⟩ := h4
    have := gotT (Cond.eq_ints h1 (hrhs r hr)) h
    rw [← eL, h1, this]
  refine ⟨d, D.cls, hev, D, A, rfl, ?_, by decide, fun i hi => ?_, fun i hi => ?_⟩
  · rw [hsz]; rfl
  · rw [hel i (by omega)]; simp [show i < 100 by omega]
  · have e : (Int32.ofNat i).toNatClampNeg = i := by simp [Int32.toNatClampNeg, Int32.toInt_ofNat_small (show i < 2 ^ 31 by omega)]
    have hnn : ¬ (Int32.ofNat i < 0 ∨ D.slots.size ≤ (Int32.ofNat i).toNatClampNeg) := by
      rw [e, Int32.lt_iff_toInt_lt, Int32.toInt_ofNat_small (show i < 2 ^ 31 by omega)]
      have : (0 : Int32).toInt = 0 := rfl
      omega
    obtain ⟨w, hw1, hw2⟩ := elem_fit hf A hnn
    rw [e, hel i (by omega)] at hw1
    injection hw1 with hw1
    rw [show ((List.range 100).map fun i => Value.int (F i)).getD i (.int 0) = .int (F i) by simp [show i < 100 by omega], hw1]
    exact hw2
set_option maxRecDepth 65536 in
set_option maxHeartbeats 40000000 in
theorem own_comes {Post : Tables → Env → Array Value → State → Outcome → State → Prop} (hpost : ∀ tb e args s v u, (limb_1_1.after args s (.returned v) u = true ∧ limb_1_2.after args s (.returned v) u = true ∧ True) → ReturnedEndW s (.returned v) u (Jvm.fieldLocs frame_1_writes args s ++ Jvm.arrayLocs frame_1_arrays args s ++ Jvm.staticLocs frame_1_statics s) 48 4352 → Post tb e args s (.returned v) u) :
    ArmFor flags0 classFile x code maxLocals ret World_1 tables_1 room_1 Calls_1 rest_1 Pre_1 Post := by
  intro l hfl _ _ p e ha hc hk s m args below hf hA hF happ hP
  obtain ⟨hcalls, hrest, hpre⟩ := hP
  obtain ⟨-, -, -, hnamed, -, -, -, hat⟩ := (Spec.applies_iff hf).mp happ
  obtain ⟨hg, hn⟩ := and_e (Cond.before_iff.mp (show (Jvm.Cond.and given_1 narrow_1).before args s = true from hpre))
  obtain ⟨hcount, hg0⟩ := and_e hg
  obtain ⟨ha0, hg1⟩ := and_e hg0
  have ha1 := hg1
  obtain ⟨w0, w1, rfl⟩ : ∃ w0 w1 : Value, args = #[w0, w1] := by
    have hs : args.size = 2 := by simpa [Cond.value, given_1] using hcount
    obtain ⟨L⟩ := args
    match L, hs with
    | [w0, w1], _ => exact ⟨w0, w1, rfl⟩
  have hw := fun d (hd : d ∈ tables_1) => atoms_spec (ws := Jvm.Cond.code x code maxLocals ret :: tables_1) hat d (List.mem_cons_of_mem _ hd)
  have hW := fun (i : Nat) (w : Jvm.Cond) (e : tables_1[i]? = some w) => hw w (List.mem_of_getElem? e)
  obtain ⟨hsets, hown0⟩ := atoms_of _ (rest_1_c_eq ▸ (show rest_1_c.before _ s = true from hrest))
  have hfit : Fit s := fun {y c} hc i hi => by
    obtain ⟨ha, rfl⟩ := Array.getElem?_eq_some_iff.mp hc
    have q := List.all_eq_true.mp ((Array.all_eq_true_iff_forall_mem.mp hF) _ (Array.getElem_mem ha)) i (List.mem_range.mpr hi)
    simpa [Array.getElem?_eq_getElem hi] using q
  obtain ⟨i0, ea0⟩ := is_v ha0
  obtain rfl : w0 = (.int i0) := Option.some.inj ea0
  obtain ⟨i1, ea1⟩ := is_v ha1
  obtain rfl : w1 = (.int i1) := Option.some.inj ea1
  have ncs := not_v (Cond.before_iff.mp (hsets _ (List.mem_of_getElem? (i := 2) rfl)))
  obtain ⟨zcs, ecs⟩ := is_v (Cond.before_iff.mp (hsets _ (List.mem_of_getElem? (i := 1) rfl)))
  have hCm : Own.Cmp s := ⟨zcs, Sta.start ecs (Or.inl (hsets _ (List.mem_of_getElem? (i := 0) rfl))), gotF (Cond.eq_ints ecs (Term.int_eval (0))) ncs⟩
  obtain ⟨vsi, esi, rsi⟩ := isR_v (Cond.before_iff.mp (hsets _ (List.mem_of_getElem? (i := 8) rfl)))
  have hSi : Own.Sio s := ⟨vsi, Sta.start esi (Or.inl (hsets _ (List.mem_of_getElem? (i := 7) rfl))), rsi⟩
  have hEL : EW s _ consts_1 := (EW.cons (hW 235 _ rfl) (by decide) (EW.cons (hW 236 _ rfl) (by decide) (EW.cons (hW 43 _ rfl) (by decide) (EW.cons (hW 19 _ rfl) (by decide) EW.nil))))
  have hCH : CHv s consts_1 s.vm s.heap := CHv.start hEL (fun p hp => hcalls.1 p hp) (hsets _ (List.mem_of_getElem? (i := 2) rfl)) (hW 20 _ rfl) (hW 6 _ rfl)
  have HW : own_Wld s _ := ⟨hw, hCm, hSi, hEL⟩
  obtain ⟨d1, k1, ed1, Ad1⟩ := own_tbl (u := Jvm.Term.static "java/lang/Integer" "DigitOnes" "[B") (F := fun r => (48 : Int32) + Int32.ofNat r % 10) (fun _ => by simp only [Term.eval]) (fun r hr => rfl) hfit (hsets _ (List.mem_of_getElem? (i := 12) rfl)) (hsets _ (List.mem_of_getElem? (i := 13) rfl)) (hsets _ (List.mem_of_getElem? (i := 14) rfl)) (hW 20 _ rfl)
  have Sd1 : Sta s s.heap "java/lang/Integer" "DigitOnes" "[B" (.ref d1) := Sta.start ed1 (Or.inl (hsets _ (List.mem_of_getElem? (i := 11) rfl)))
  obtain ⟨d2, k2, ed2, Ad2⟩ := own_tbl (u := Jvm.Term.static "java/lang/Integer" "DigitTens" "[B") (F := fun r => (48 : Int32) + Int32.ofNat r / 10) (fun _ => by simp only [Term.eval]) (fun r hr => rfl) hfit (hsets _ (List.mem_of_getElem? (i := 17) rfl)) (hsets _ (List.mem_of_getElem? (i := 18) rfl)) (hsets _ (List.mem_of_getElem? (i := 19) rfl)) (hW 20 _ rfl)
  have Sd2 : Sta s s.heap "java/lang/Integer" "DigitTens" "[B" (.ref d2) := Sta.start ed2 (Or.inl (hsets _ (List.mem_of_getElem? (i := 16) rfl)))
  have DG : own_Dig s d1 d2 k1 k2 := ⟨Sd1, Ad1, Sd2, Ad2⟩
  obtain ⟨n, o, h1, h2, h3, _, L, rfl, ⟨⟨-, rfl⟩, N⟩, -, hq⟩ := own_law l s _ HW (cw := tables_1) i0 i1 DG s.heap ⟨Nat.le_refl _, fun _ _ q => q⟩ p e ha hc hk s m _ below hf ((Spec.applies_iff_loose hf).mp happ).1 ⟨rfl, State.Warmed39.refl s, rfl, hCH⟩ trivial
  exact ⟨n, _, h1, h2, h3, hpost _ _ _ _ _ _ ⟨Cond.after_iff.mpr rfl, Cond.after_iff.mpr (eq_i res_at (Term.int_eval (1)) rfl), trivial⟩ ⟨hq.1, hq.2.1, hq.2.2.1, hq.2.2.2.sift fun y hy => Or.inr (N y hy)⟩⟩
theorem main_1_1 : Claimed_1_1 := own_comes fun _ _ _ _ _ _ h hF => ⟨h.1, hF⟩
theorem main_1_2 : Claimed_1_2 := own_comes fun _ _ _ _ _ _ h hF => ⟨h.2.1, hF⟩
end Jvm.Pilot.@@N@@
namespace Jvm.Pilot.@@N@@
open Jvm Jvm.ClassFile Sem Op Lib Jvm.Free Jvm.Stand Jvm.Pilot.@@N@@.Jvm.D
/-! MADE BY PROGRAM (witnessworld.py) out of the Statement's table words and the real class files: 28 classes; the members and pool entries that the words name. The judged class is class 1, her method 1. -/
namespace start1
open Jvm.ClassFile
def u (s : String) : CpInfo := .utf8 (stringToUtf16 s)
/-- a pool by its gaps: so many unusable entries, then the entry; so many at the end -/
def gap : Nat → List CpInfo → List CpInfo
  | 0, r => r
  | n + 1, r => .unusable :: gap n r
def poolList (es : List (Nat × CpInfo)) (last : Nat) : List CpInfo := es.foldr (fun e r => gap e.1 (e.2 :: r)) (gap last [])
def pool (es : List (Nat × CpInfo)) (last : Nat) : Array CpInfo := ⟨poolList es last⟩
def fileOf (pool : Array CpInfo) (this : Nat) (attrs : Array Attribute := #[]) (ms : Array MethodInfo := #[]) (fl : Nat := 33) (sup : Nat := 0) (ifs : Array Nat := #[]) (fds : Array FieldInfo := #[]) : ClassFile where
  minorVersion := 0
  majorVersion := 65
  constantPool := pool
  accessFlags := fl
  thisClass := this
  superClass := sup
  interfaces := ifs
  fields := fds
  methods := ms
  attributes := attrs
def plain (name : String) (sup : Option ClassId) : Class where
  name := name
  kind := .ordinary
  loader := none
  accessFlags := 33
  super := sup
  interfaces := #[]
  cf := none
  fields := #[]
  methods := #[]
  instanceTypes := #[]
  staticTypes := #[]
  resolved := #[]
  callSites := []
  init := .initialized
  statics := none
  mirror := none

def pool0 : Array CpInfo := pool [(5, u "<init>"), (0, u "()V"), (1, .class_ 10), (1, u "java/lang/Object")] 113

def k0c0 : Code := { maxStack := 0, maxLocals := 1, code := object_method_1_code, exceptionTable := #[], attributes := #[] }
def k0m0 : Method := { name := "<init>", desc := "()V", sig := { parameters := [], returnType := none }, accessFlags := 1, code := some k0c0 }
/-- java/lang/Object -/
def k0 : Class := { plain "java/lang/Object" none with
  accessFlags := 33
  interfaces := #[]
  cf := some (fileOf pool0 8 #[] #[{ accessFlags := 1, nameIndex := 5, descriptorIndex := 6, attributes := #[] }] 33 0 #[] #[])
  fields := #[]
  methods := #[k0m0]
  instanceTypes := #[]
  staticTypes := #[]
  resolved := Array.replicate 124 none
  statics := none }

def pool1 : Array CpInfo := pool [(2, .class_ 4), (1, u "java/lang/Object"), (0, u "<init>"), (0, u "()V"), (0, .integer 65535), (0, .methodref 9 10), (0, .class_ 11), (0, .nameAndType 12 13), (0, u "com/example/latchkey/latchkey/ListenAddressToStringPinLaw"), (0, u "make"), (0, u "(ICCC)Ljava/lang/String;"), (0, .class_ 15), (0, u "com/example/latchkey/latchkey/ListenAddress"), (0, .methodref 14 17), (0, .nameAndType 5 18), (0, u "(Ljava/lang/String;I)V"), (0, .methodref 14 20), (0, .nameAndType 21 22), (0, u "toString"), (0, u "()Ljava/lang/String;"), (0, .methodref 24 25), (0, .class_ 26), (0, .nameAndType 27 28), (0, u "java/lang/String"), (0, u "length"), (0, u "()I"), (0, .methodref 9 30), (0, .nameAndType 31 32), (0, u "at"), (0, u "(Ljava/lang/String;[CII)Z"), (0, .methodref 24 34), (0, .nameAndType 35 36), (0, u "charAt"), (0, u "(I)C"), (0, .methodref 24 38), (0, .nameAndType 5 39), (0, u "([C)V"), (2, u "law"), (0, u "(II)Z")] 5

def k1m0 : Method := { name := "<init>", desc := "()V", sig := { parameters := [], returnType := none }, accessFlags := 1, code := none }
def k1c1 : Code := { maxStack := 5, maxLocals := 13, code := code, exceptionTable := #[], attributes := #[] }
def k1m1 : Method := { name := "law", desc := "(II)Z", sig := { parameters := [.int, .int], returnType := some .boolean }, accessFlags := 9, code := some k1c1 }
def k1c2 : Code := { maxStack := 3, maxLocals := 4, code := method_3_code, exceptionTable := #[], attributes := #[] }
def k1m2 : Method := { name := "at", desc := "(Ljava/lang/String;[CII)Z", sig := { parameters := [(.object "java/lang/String"), (.array .char), .int, .int], returnType := some .boolean }, accessFlags := 10, code := some k1c2 }
def k1c3 : Code := { maxStack := 6, maxLocals := 4, code := method_4_code, exceptionTable := #[], attributes := #[] }
def k1m3 : Method := { name := "make", desc := "(ICCC)Ljava/lang/String;", sig := { parameters := [.int, .char, .char, .char], returnType := some (.object "java/lang/String") }, accessFlags := 10, code := some k1c3 }
/-- com/example/latchkey/latchkey/ListenAddressToStringPinLaw -/
def k1 : Class := { plain "com/example/latchkey/latchkey/ListenAddressToStringPinLaw" (some 0) with
  accessFlags := 49
  interfaces := #[]
  cf := some (fileOf pool1 9 #[] #[{ accessFlags := 1, nameIndex := 5, descriptorIndex := 6, attributes := #[] }, { accessFlags := 9, nameIndex := 42, descriptorIndex := 43, attributes := #[] }, { accessFlags := 10, nameIndex := 31, descriptorIndex := 32, attributes := #[] }, { accessFlags := 10, nameIndex := 12, descriptorIndex := 13, attributes := #[] }] 49 2 #[] #[])
  fields := #[]
  methods := #[k1m0, k1m1, k1m2, k1m3]
  instanceTypes := #[]
  staticTypes := #[]
  resolved := Array.replicate 49 none
  statics := none }

def pool2 : Array CpInfo := pool [(1, .class_ 2), (0, u "java/io/Serializable"), (0, .class_ 4), (0, u "java/lang/Object")] 2

/-- java/io/Serializable -/
def k2 : Class := { plain "java/io/Serializable" (some 0) with
  accessFlags := 1537
  interfaces := #[]
  cf := some (fileOf pool2 1 #[] #[] 1537 3 #[] #[])
  fields := #[]
  methods := #[]
  instanceTypes := #[]
  staticTypes := #[]
  resolved := Array.replicate 7 none
  statics := none }

def pool3 : Array CpInfo := pool [(1, .class_ 2), (0, u "java/lang/Comparable"), (0, .class_ 4), (0, u "java/lang/Object")] 7

/-- java/lang/Comparable -/
def k3 : Class := { plain "java/lang/Comparable" (some 0) with
  accessFlags := 1537
  interfaces := #[]
  cf := some (fileOf pool3 1 #[] #[] 1537 3 #[] #[])
  fields := #[]
  methods := #[]
  instanceTypes := #[]
  staticTypes := #[]
  resolved := Array.replicate 12 none
  statics := none }

def pool4 : Array CpInfo := pool [(2, .class_ 4), (1, u "java/lang/CharSequence"), (42, .class_ 48), (0, u "java/lang/CharSequence$1CodePointIterator"), (10, .class_ 60), (0, u "java/lang/CharSequence$1CharIterator"), (5, .class_ 67), (0, u "java/lang/Object"), (10, u "toString"), (0, u "()Ljava/lang/String;")] 51

def k4m0 : Method := { name := "toString", desc := "()Ljava/lang/String;", sig := { parameters := [], returnType := some (.object "java/lang/String") }, accessFlags := 1025, code := none }
/-- java/lang/CharSequence -/
def k4 : Class := { plain "java/lang/CharSequence" (some 0) with
  accessFlags := 1537
  interfaces := #[]
  cf := some (fileOf pool4 2 #[.nestMembers #[47, 59]] #[{ accessFlags := 1025, nameIndex := 78, descriptorIndex := 79, attributes := #[] }] 1537 66 #[] #[])
  fields := #[]
  methods := #[k4m0]
  instanceTypes := #[]
  staticTypes := #[]
  resolved := Array.replicate 131 none
  statics := none }

def pool5 : Array CpInfo := pool [(1, .class_ 2), (0, u "java/lang/constant/Constable"), (0, .class_ 4), (0, u "java/lang/Object")] 6

/-- java/lang/constant/Constable -/
def k5 : Class := { plain "java/lang/constant/Constable" (some 0) with
  accessFlags := 1537
  interfaces := #[]
  cf := some (fileOf pool5 1 #[] #[] 1537 3 #[] #[])
  fields := #[]
  methods := #[]
  instanceTypes := #[]
  staticTypes := #[]
  resolved := Array.replicate 11 none
  statics := none }

def pool6 : Array CpInfo := pool [(1, .class_ 2), (0, u "java/lang/constant/ConstantDesc"), (0, .class_ 4), (0, u "java/lang/Object")] 32

/-- java/lang/constant/ConstantDesc -/
def k6 : Class := { plain "java/lang/constant/ConstantDesc" (some 0) with
  accessFlags := 1537
  interfaces := #[]
  cf := some (fileOf pool6 1 #[] #[] 1537 3 #[] #[])
  fields := #[]
  methods := #[]
  instanceTypes := #[]
  staticTypes := #[]
  resolved := Array.replicate 37 none
  statics := none }

def pool7 : Array CpInfo := pool [(1, .methodref 2 3), (0, .class_ 4), (0, .nameAndType 5 6), (0, u "java/lang/Object"), (0, u "<init>"), (0, u "()V"), (0, .string 8), (0, u ""), (0, .fieldref 10 11), (0, .class_ 12), (0, .nameAndType 13 14), (0, u "java/lang/String"), (0, u "value"), (0, u "[B"), (0, .fieldref 10 16), (0, .nameAndType 17 18), (0, u "coder"), (0, u "B"), (2, u "hash"), (0, u "I"), (2, u "hashIsZero"), (0, u "Z"), (0, .methodref 10 28), (0, .nameAndType 5 29), (0, u "([CIILjava/lang/Void;)V"), (8, .fieldref 10 39), (0, .nameAndType 40 26), (0, u "COMPACT_STRINGS"), (1, .class_ 44), (1, u "java/lang/StringUTF16"), (0, u "compress"), (1, .methodref 42 48), (0, .nameAndType 49 50), (0, u "coderFromArrayLen"), (0, u "([BI)B"), (3, .methodref 55 56), (0, .class_ 57), (0, .nameAndType 58 59), (0, u "java/util/Arrays"), (0, u "copyOfRange"), (0, u "([BII)[B"), (47, .class_ 109), (1, u "java/lang/StringLatin1"), (32, u "()Z"), (34, .methodref 42 178), (0, .nameAndType 45 179), (0, u "([CII)[B"), (13, .class_ 195), (1, u "java/lang/System"), (16, .methodref 193 213), (0, .nameAndType 214 215), (0, u "arraycopy"), (0, u "(Ljava/lang/Object;ILjava/lang/Object;II)V"), (118, u "()I"), (0, .methodref 10 336), (0, .nameAndType 17 337), (0, u "()B"), (2, u "()[B"), (22, u "([BI)C"), (27, u "(II)V"), (35, u "(I)C"), (34, .nameAndType 463 464), (0, u "toString"), (0, u "()Ljava/lang/String;"), (24, .methodref 10 490), (0, .nameAndType 5 491), (0, u "(Ljava/lang/AbstractStringBuilder;Ljava/lang/Void;)V"), (0, .methodref 10 493), (0, .nameAndType 494 142), (0, u "isLatin1"), (0, .methodref 107 496), (0, .nameAndType 497 363), (0, u "charAt"), (3, u "checkIndex"), (4, .nameAndType 507 334), (0, u "length"), (24, u "getBytes"), (15, u "(Ljava/lang/CharSequence;)Z"), (0, .methodref 550 506), (0, .class_ 551), (0, u "java/lang/AbstractStringBuilder"), (0, .methodref 550 553), (0, .nameAndType 554 340), (0, u "getValue"), (20, .class_ 576), (0, u "java/lang/CharSequence"), (12, u "([B[B)I"), (9, u "CASE_INSENSITIVE_ORDER"), (0, u "Ljava/util/Comparator;"), (34, u "indexOf"), (11, .methodref 107 648), (0, .nameAndType 635 589), (61, .interfaceMethodref 575 462), (0, .methodref 10 712), (0, .nameAndType 635 713), (0, u "(Ljava/lang/String;)I"), (107, u "([BIB)V"), (188, u "([C)V"), (36, .methodref 550 493), (5, .fieldref 1054 1055), (0, .class_ 1056), (0, .nameAndType 1057 1058), (0, u "jdk/internal/util/Preconditions"), (0, u "SIOOBE_FORMATTER"), (0, u "Ljava/util/function/BiFunction;"), (0, .methodref 1054 1060), (0, .nameAndType 501 1061), (0, u "(IILjava/util/function/BiFunction;)I"), (39, u "serialPersistentFields"), (0, u "[Ljava/io/ObjectStreamField;"), (0, .class_ 1104), (0, u "java/lang/String$CaseInsensitiveComparator"), (1, .class_ 1107), (0, u "java/io/Serializable"), (0, .class_ 1109), (0, u "java/lang/Comparable"), (0, .class_ 1111), (0, u "java/lang/constant/Constable"), (0, .class_ 1113), (0, u "java/lang/constant/ConstantDesc"), (2, u "serialVersionUID"), (0, u "J"), (3, u "REPL"), (0, u "C"), (2, u "LATIN1"), (1, u "UTF16"), (105, u "(Ljava/lang/StringBuilder;)V"), (57, u "contains")] 159

def k7m0 : Method := { name := "<init>", desc := "()V", sig := { parameters := [], returnType := none }, accessFlags := 1, code := none }
def k7c1 : Code := { maxStack := 5, maxLocals := 2, code := jdk_42_method_3_code, exceptionTable := #[], attributes := #[] }
def k7m1 : Method := { name := "<init>", desc := "([C)V", sig := { parameters := [(.array .char)], returnType := none }, accessFlags := 1, code := some k7c1 }
def k7c2 : Code := { maxStack := 3, maxLocals := 2, code := jdk_42_method_53_code, exceptionTable := #[], attributes := #[] }
def k7m2 : Method := { name := "<init>", desc := "(Ljava/lang/StringBuilder;)V", sig := { parameters := [(.object "java/lang/StringBuilder")], returnType := none }, accessFlags := 1, code := some k7c2 }
def k7c3 : Code := { maxStack := 2, maxLocals := 1, code := jdk_42_method_54_code, exceptionTable := #[], attributes := #[] }
def k7m3 : Method := { name := "length", desc := "()I", sig := { parameters := [], returnType := some .int }, accessFlags := 1, code := some k7c3 }
def k7c4 : Code := { maxStack := 2, maxLocals := 2, code := jdk_42_method_56_code, exceptionTable := #[], attributes := #[] }
def k7m4 : Method := { name := "charAt", desc := "(I)C", sig := { parameters := [.int], returnType := some .char }, accessFlags := 1, code := some k7c4 }
def k7c5 : Code := { maxStack := 2, maxLocals := 3, code := jdk_42_method_84_code, exceptionTable := #[], attributes := #[] }
def k7m5 : Method := { name := "indexOf", desc := "(Ljava/lang/String;)I", sig := { parameters := [(.object "java/lang/String")], returnType := some .int }, accessFlags := 1, code := some k7c5 }
def k7c6 : Code := { maxStack := 2, maxLocals := 2, code := jdk_42_method_97_code, exceptionTable := #[], attributes := #[] }
def k7m6 : Method := { name := "contains", desc := "(Ljava/lang/CharSequence;)Z", sig := { parameters := [(.object "java/lang/CharSequence")], returnType := some .boolean }, accessFlags := 1, code := some k7c6 }
def k7c7 : Code := { maxStack := 1, maxLocals := 1, code := jdk_42_method_126_code, exceptionTable := #[], attributes := #[] }
def k7m7 : Method := { name := "toString", desc := "()Ljava/lang/String;", sig := { parameters := [], returnType := some (.object "java/lang/String") }, accessFlags := 1, code := some k7c7 }
def k7c8 : Code := { maxStack := 5, maxLocals := 4, code := jdk_42_method_147_code, exceptionTable := #[], attributes := #[] }
def k7m8 : Method := { name := "getBytes", desc := "([BIB)V", sig := { parameters := [(.array .byte), .int, .byte], returnType := none }, accessFlags := 0, code := some k7c8 }
def k7c9 : Code := { maxStack := 4, maxLocals := 6, code := jdk_42_method_149_code, exceptionTable := #[], attributes := #[] }
def k7m9 : Method := { name := "<init>", desc := "([CIILjava/lang/Void;)V", sig := { parameters := [(.array .char), .int, .int, (.object "java/lang/Void")], returnType := none }, accessFlags := 2, code := some k7c9 }
def k7c10 : Code := { maxStack := 5, maxLocals := 5, code := jdk_42_method_150_code, exceptionTable := #[], attributes := #[] }
def k7m10 : Method := { name := "<init>", desc := "(Ljava/lang/AbstractStringBuilder;Ljava/lang/Void;)V", sig := { parameters := [(.object "java/lang/AbstractStringBuilder"), (.object "java/lang/Void")], returnType := none }, accessFlags := 0, code := some k7c10 }
def k7c11 : Code := { maxStack := 1, maxLocals := 1, code := jdk_42_method_152_code, exceptionTable := #[], attributes := #[] }
def k7m11 : Method := { name := "coder", desc := "()B", sig := { parameters := [], returnType := some .byte }, accessFlags := 0, code := some k7c11 }
def k7c12 : Code := { maxStack := 1, maxLocals := 1, code := jdk_42_method_154_code, exceptionTable := #[], attributes := #[] }
def k7m12 : Method := { name := "isLatin1", desc := "()Z", sig := { parameters := [], returnType := some .boolean }, accessFlags := 0, code := some k7c12 }
def k7c13 : Code := { maxStack := 3, maxLocals := 2, code := jdk_42_method_155_code, exceptionTable := #[], attributes := #[] }
def k7m13 : Method := { name := "checkIndex", desc := "(II)V", sig := { parameters := [.int, .int], returnType := none }, accessFlags := 8, code := some k7c13 }
/-- java/lang/String -/
def k7 : Class := { plain "java/lang/String" (some 0) with
  accessFlags := 49
  interfaces := #[2, 3, 4, 5, 6]
  cf := some (fileOf pool7 10 #[.nestMembers #[1103]] #[{ accessFlags := 1, nameIndex := 5, descriptorIndex := 6, attributes := #[] }, { accessFlags := 1, nameIndex := 5, descriptorIndex := 1010, attributes := #[] }, { accessFlags := 1, nameIndex := 5, descriptorIndex := 1233, attributes := #[] }, { accessFlags := 1, nameIndex := 507, descriptorIndex := 334, attributes := #[] }, { accessFlags := 1, nameIndex := 497, descriptorIndex := 427, attributes := #[] }, { accessFlags := 1, nameIndex := 635, descriptorIndex := 713, attributes := #[] }, { accessFlags := 1, nameIndex := 1291, descriptorIndex := 548, attributes := #[] }, { accessFlags := 1, nameIndex := 463, descriptorIndex := 464, attributes := #[] }, { accessFlags := 0, nameIndex := 532, descriptorIndex := 821, attributes := #[] }, { accessFlags := 2, nameIndex := 5, descriptorIndex := 29, attributes := #[] }, { accessFlags := 0, nameIndex := 5, descriptorIndex := 491, attributes := #[] }, { accessFlags := 0, nameIndex := 17, descriptorIndex := 337, attributes := #[] }, { accessFlags := 0, nameIndex := 494, descriptorIndex := 142, attributes := #[] }, { accessFlags := 8, nameIndex := 501, descriptorIndex := 391, attributes := #[] }] 49 2 #[1106, 1108, 575, 1110, 1112] #[{ accessFlags := 18, nameIndex := 13, descriptorIndex := 14, attributes := #[] }, { accessFlags := 18, nameIndex := 17, descriptorIndex := 18, attributes := #[] }, { accessFlags := 2, nameIndex := 21, descriptorIndex := 22, attributes := #[] }, { accessFlags := 2, nameIndex := 25, descriptorIndex := 26, attributes := #[] }, { accessFlags := 26, nameIndex := 1116, descriptorIndex := 1117, attributes := #[] }, { accessFlags := 24, nameIndex := 40, descriptorIndex := 26, attributes := #[] }, { accessFlags := 26, nameIndex := 1101, descriptorIndex := 1102, attributes := #[] }, { accessFlags := 26, nameIndex := 1121, descriptorIndex := 1122, attributes := #[] }, { accessFlags := 25, nameIndex := 599, descriptorIndex := 600, attributes := #[] }, { accessFlags := 24, nameIndex := 1125, descriptorIndex := 18, attributes := #[] }, { accessFlags := 24, nameIndex := 1127, descriptorIndex := 18, attributes := #[] }])
  fields := #[{ name := "value", type := (.array .byte), accessFlags := 18, slot := 0, constantValue := 0 }, { name := "coder", type := .byte, accessFlags := 18, slot := 1, constantValue := 0 }, { name := "hash", type := .int, accessFlags := 2, slot := 2, constantValue := 0 }, { name := "hashIsZero", type := .boolean, accessFlags := 2, slot := 3, constantValue := 0 }, { name := "serialVersionUID", type := .long, accessFlags := 26, slot := 0, constantValue := 0 }, { name := "COMPACT_STRINGS", type := .boolean, accessFlags := 24, slot := 1, constantValue := 0 }, { name := "serialPersistentFields", type := (.array (.object "java/io/ObjectStreamField")), accessFlags := 26, slot := 2, constantValue := 0 }, { name := "REPL", type := .char, accessFlags := 26, slot := 3, constantValue := 0 }, { name := "CASE_INSENSITIVE_ORDER", type := (.object "java/util/Comparator"), accessFlags := 25, slot := 4, constantValue := 0 }, { name := "LATIN1", type := .byte, accessFlags := 24, slot := 5, constantValue := 0 }, { name := "UTF16", type := .byte, accessFlags := 24, slot := 6, constantValue := 0 }]
  methods := #[k7m0, k7m1, k7m2, k7m3, k7m4, k7m5, k7m6, k7m7, k7m8, k7m9, k7m10, k7m11, k7m12, k7m13]
  instanceTypes := #[(.array .byte), .byte, .int, .boolean]
  staticTypes := #[.long, .boolean, (.array (.object "java/io/ObjectStreamField")), .char, (.object "java/util/Comparator"), .byte, .byte]
  resolved := Array.replicate 1451 none
  statics := some 0 }

def pool8 : Array CpInfo := pool [(1, .methodref 2 3), (0, .class_ 4), (0, .nameAndType 5 6), (0, u "java/lang/Object"), (0, u "<init>"), (0, u "()V"), (0, .fieldref 8 9), (0, .class_ 10), (0, .nameAndType 11 12), (0, u "com/example/latchkey/latchkey/ListenAddress"), (0, u "host"), (0, u "Ljava/lang/String;"), (0, .fieldref 8 14), (0, .nameAndType 15 16), (0, u "port"), (0, u "I"), (1, .class_ 20), (1, u "java/lang/String"), (10, .string 32), (0, u "["), (4, .string 38), (0, u "]"), (7, .string 47), (0, u ":"), (0, .methodref 18 49), (0, .nameAndType 50 51), (0, u "contains"), (0, u "(Ljava/lang/CharSequence;)Z"), (30, u "(Ljava/lang/String;I)V"), (0, .class_ 84), (0, u "java/lang/StringBuilder"), (0, .methodref 83 3), (2, .methodref 83 89), (0, .nameAndType 90 91), (0, u "append"), (0, u "(Ljava/lang/String;)Ljava/lang/StringBuilder;"), (0, .methodref 83 93), (0, .nameAndType 94 95), (0, u "toString"), (0, u "()Ljava/lang/String;"), (5, .methodref 83 102), (0, .nameAndType 90 103), (0, u "(I)Ljava/lang/StringBuilder;"), (0, u "MAX_PORT")] 31

def k8c0 : Code := { maxStack := 2, maxLocals := 3, code := prog_8_method_1_code, exceptionTable := #[], attributes := #[] }
def k8m0 : Method := { name := "<init>", desc := "(Ljava/lang/String;I)V", sig := { parameters := [(.object "java/lang/String"), .int], returnType := none }, accessFlags := 0, code := some k8c0 }
def k8c1 : Code := { maxStack := 2, maxLocals := 2, code := prog_8_method_7_code, exceptionTable := #[], attributes := #[] }
def k8m1 : Method := { name := "toString", desc := "()Ljava/lang/String;", sig := { parameters := [], returnType := some (.object "java/lang/String") }, accessFlags := 1, code := some k8c1 }
/-- com/example/latchkey/latchkey/ListenAddress -/
def k8 : Class := { plain "com/example/latchkey/latchkey/ListenAddress" (some 0) with
  accessFlags := 32
  interfaces := #[]
  cf := some (fileOf pool8 8 #[] #[{ accessFlags := 0, nameIndex := 5, descriptorIndex := 82, attributes := #[] }, { accessFlags := 1, nameIndex := 94, descriptorIndex := 95, attributes := #[] }] 32 2 #[] #[{ accessFlags := 26, nameIndex := 104, descriptorIndex := 16, attributes := #[] }, { accessFlags := 18, nameIndex := 11, descriptorIndex := 12, attributes := #[] }, { accessFlags := 18, nameIndex := 15, descriptorIndex := 16, attributes := #[] }])
  fields := #[{ name := "MAX_PORT", type := .int, accessFlags := 26, slot := 0, constantValue := 0 }, { name := "host", type := (.object "java/lang/String"), accessFlags := 18, slot := 0, constantValue := 0 }, { name := "port", type := .int, accessFlags := 18, slot := 1, constantValue := 0 }]
  methods := #[k8m0, k8m1]
  instanceTypes := #[(.object "java/lang/String"), .int]
  staticTypes := #[.int]
  resolved := Array.replicate 136 none
  statics := none }

def pool9 : Array CpInfo := pool [(1, .class_ 2), (0, u "java/lang/String"), (1, .class_ 6), (1, u "java/lang/Object"), (0, u "<init>"), (0, u "()V"), (0, .methodref 1 10), (0, .nameAndType 11 12), (0, u "checkIndex"), (0, u "(II)V"), (1, .class_ 16), (1, u "java/lang/StringLatin1"), (36, u "([BI)C"), (45, .methodref 14 100), (0, .nameAndType 101 102), (0, u "indexOf"), (0, u "([BI[BII)I"), (18, u "$assertionsDisabled"), (0, u "Z"), (98, .class_ 223), (1, u "java/lang/StringLatin1$LinesSpliterator"), (28, u "charAt"), (34, u "([B[B)I"), (102, .class_ 391), (0, u "java/lang/StringLatin1$CharsSpliterator")] 3

def k9m0 : Method := { name := "<init>", desc := "()V", sig := { parameters := [], returnType := none }, accessFlags := 0, code := none }
def k9c1 : Code := { maxStack := 2, maxLocals := 2, code := jdk_43_method_2_code, exceptionTable := #[], attributes := #[] }
def k9m1 : Method := { name := "charAt", desc := "([BI)C", sig := { parameters := [(.array .byte), .int], returnType := some .char }, accessFlags := 9, code := some k9c1 }
def k9c2 : Code := { maxStack := 5, maxLocals := 2, code := jdk_43_method_24_code, exceptionTable := #[], attributes := #[] }
def k9m2 : Method := { name := "indexOf", desc := "([B[B)I", sig := { parameters := [(.array .byte), (.array .byte)], returnType := some .int }, accessFlags := 9, code := some k9c2 }
def k9c3 : Code := { maxStack := 3, maxLocals := 11, code := jdk_43_method_25_code, exceptionTable := #[], attributes := #[] }
def k9m3 : Method := { name := "indexOf", desc := "([BI[BII)I", sig := { parameters := [(.array .byte), .int, (.array .byte), .int, .int], returnType := some .int }, accessFlags := 9, code := some k9c3 }
/-- java/lang/StringLatin1 -/
def k9 : Class := { plain "java/lang/StringLatin1" (some 0) with
  accessFlags := 48
  interfaces := #[]
  cf := some (fileOf pool9 14 #[.nestMembers #[390, 221]] #[{ accessFlags := 0, nameIndex := 7, descriptorIndex := 8, attributes := #[] }, { accessFlags := 9, nameIndex := 252, descriptorIndex := 53, attributes := #[] }, { accessFlags := 9, nameIndex := 101, descriptorIndex := 287, attributes := #[] }, { accessFlags := 9, nameIndex := 101, descriptorIndex := 102, attributes := #[] }] 48 4 #[] #[{ accessFlags := 4120, nameIndex := 121, descriptorIndex := 122, attributes := #[] }])
  fields := #[{ name := "$assertionsDisabled", type := .boolean, accessFlags := 4120, slot := 0, constantValue := 0 }]
  methods := #[k9m0, k9m1, k9m2, k9m3]
  instanceTypes := #[]
  staticTypes := #[.boolean]
  resolved := Array.replicate 395 none
  statics := none }

def pool10 : Array CpInfo := pool [(1, .class_ 2), (0, u "java/lang/Appendable"), (0, .class_ 4), (0, u "java/lang/Object")] 9

/-- java/lang/Appendable -/
def k10 : Class := { plain "java/lang/Appendable" (some 0) with
  accessFlags := 1537
  interfaces := #[]
  cf := some (fileOf pool10 1 #[] #[] 1537 3 #[] #[])
  fields := #[]
  methods := #[]
  instanceTypes := #[]
  staticTypes := #[]
  resolved := Array.replicate 14 none
  statics := none }

def pool11 : Array CpInfo := pool [(1, .class_ 2), (0, u "java/lang/String"), (0, .methodref 4 5), (0, .class_ 6), (0, .nameAndType 7 8), (0, u "java/lang/Object"), (0, u "<init>"), (0, u "()V"), (1, .class_ 12), (1, u "java/lang/AbstractStringBuilder"), (0, u "EMPTYVALUE"), (0, u "[B"), (0, .fieldref 10 16), (0, .nameAndType 17 14), (0, u "value"), (0, .fieldref 1 19), (0, .nameAndType 20 21), (0, u "COMPACT_STRINGS"), (0, u "Z"), (0, .fieldref 10 23), (0, .nameAndType 24 25), (0, u "coder"), (0, u "B"), (6, .methodref 1 33), (0, .nameAndType 34 35), (0, u "length"), (0, u "()I"), (0, .class_ 37), (0, u "java/lang/Integer"), (2, .methodref 1 41), (0, .nameAndType 24 42), (0, u "()B"), (2, u "append"), (0, u "(Ljava/lang/String;)Ljava/lang/AbstractStringBuilder;"), (1, .class_ 49), (0, u "java/lang/CharSequence"), (19, u "(Ljava/lang/String;)V"), (5, u "maybeLatin1"), (3, .fieldref 10 80), (0, .nameAndType 81 82), (0, u "count"), (0, u "I"), (0, .methodref 10 84), (0, .nameAndType 85 86), (0, u "isLatin1"), (0, u "()Z"), (13, .methodref 10 101), (0, .nameAndType 102 103), (0, u "ensureCapacityInternal"), (0, u "(I)V"), (3, u "(I)I"), (80, u "getChars"), (19, .methodref 10 209), (0, .nameAndType 210 211), (0, u "putStringAt"), (0, u "(ILjava/lang/String;)V"), (5, u "inflateIfNeededFor"), (2, .nameAndType 221 222), (0, u "getBytes"), (0, u "([BIB)V"), (22, .methodref 36 246), (0, .nameAndType 247 107), (0, u "stringSize"), (0, .methodref 36 249), (0, .nameAndType 188 250), (0, u "(II[B)I"), (146, .methodref 10 398), (0, .nameAndType 217 69), (0, .methodref 1 220), (3, u "()[B"), (40, .class_ 445), (0, u "java/lang/Appendable"), (65, u "(I)Ljava/lang/AbstractStringBuilder;"), (40, u "getValue")] 56

def k11m0 : Method := { name := "<init>", desc := "()V", sig := { parameters := [], returnType := none }, accessFlags := 0, code := none }
def k11c1 : Code := { maxStack := 2, maxLocals := 2, code := jdk_68_method_2_code, exceptionTable := #[], attributes := #[] }
def k11m1 : Method := { name := "<init>", desc := "(I)V", sig := { parameters := [.int], returnType := none }, accessFlags := 0, code := some k11c1 }
def k11c2 : Code := { maxStack := 1, maxLocals := 1, code := jdk_68_method_6_code, exceptionTable := #[], attributes := #[] }
def k11m2 : Method := { name := "length", desc := "()I", sig := { parameters := [], returnType := some .int }, accessFlags := 1, code := some k11c2 }
def k11c3 : Code := { maxStack := 4, maxLocals := 3, code := jdk_68_method_9_code, exceptionTable := #[], attributes := #[] }
def k11m3 : Method := { name := "ensureCapacityInternal", desc := "(I)V", sig := { parameters := [.int], returnType := none }, accessFlags := 2, code := some k11c3 }
def k11c4 : Code := { maxStack := 3, maxLocals := 3, code := jdk_68_method_22_code, exceptionTable := #[], attributes := #[] }
def k11m4 : Method := { name := "append", desc := "(Ljava/lang/String;)Ljava/lang/AbstractStringBuilder;", sig := { parameters := [(.object "java/lang/String")], returnType := some (.object "java/lang/AbstractStringBuilder") }, accessFlags := 1, code := some k11c4 }
def k11c5 : Code := { maxStack := 4, maxLocals := 4, code := jdk_68_method_32_code, exceptionTable := #[], attributes := #[] }
def k11m5 : Method := { name := "append", desc := "(I)Ljava/lang/AbstractStringBuilder;", sig := { parameters := [.int], returnType := some (.object "java/lang/AbstractStringBuilder") }, accessFlags := 1, code := some k11c5 }
def k11c6 : Code := { maxStack := 1, maxLocals := 1, code := jdk_68_method_64_code, exceptionTable := #[], attributes := #[] }
def k11m6 : Method := { name := "getValue", desc := "()[B", sig := { parameters := [], returnType := some (.array .byte) }, accessFlags := 16, code := some k11c6 }
def k11c7 : Code := { maxStack := 1, maxLocals := 1, code := jdk_68_method_68_code, exceptionTable := #[], attributes := #[] }
def k11m7 : Method := { name := "isLatin1", desc := "()Z", sig := { parameters := [], returnType := some .boolean }, accessFlags := 16, code := some k11c7 }
def k11c8 : Code := { maxStack := 2, maxLocals := 2, code := jdk_68_method_71_code, exceptionTable := #[], attributes := #[] }
def k11m8 : Method := { name := "inflateIfNeededFor", desc := "(Ljava/lang/String;)V", sig := { parameters := [(.object "java/lang/String")], returnType := none }, accessFlags := 2, code := some k11c8 }
def k11c9 : Code := { maxStack := 4, maxLocals := 3, code := jdk_68_method_73_code, exceptionTable := #[], attributes := #[] }
def k11m9 : Method := { name := "putStringAt", desc := "(ILjava/lang/String;)V", sig := { parameters := [.int, (.object "java/lang/String")], returnType := none }, accessFlags := 2, code := some k11c9 }
/-- java/lang/AbstractStringBuilder -/
def k11 : Class := { plain "java/lang/AbstractStringBuilder" (some 0) with
  accessFlags := 1056
  interfaces := #[10, 4]
  cf := some (fileOf pool11 10 #[] #[{ accessFlags := 0, nameIndex := 7, descriptorIndex := 8, attributes := #[] }, { accessFlags := 0, nameIndex := 7, descriptorIndex := 103, attributes := #[] }, { accessFlags := 1, nameIndex := 34, descriptorIndex := 35, attributes := #[] }, { accessFlags := 2, nameIndex := 102, descriptorIndex := 103, attributes := #[] }, { accessFlags := 1, nameIndex := 45, descriptorIndex := 46, attributes := #[] }, { accessFlags := 1, nameIndex := 45, descriptorIndex := 511, attributes := #[] }, { accessFlags := 16, nameIndex := 552, descriptorIndex := 403, attributes := #[] }, { accessFlags := 16, nameIndex := 85, descriptorIndex := 86, attributes := #[] }, { accessFlags := 2, nameIndex := 217, descriptorIndex := 69, attributes := #[] }, { accessFlags := 2, nameIndex := 210, descriptorIndex := 211, attributes := #[] }] 1056 4 #[444, 48] #[{ accessFlags := 0, nameIndex := 17, descriptorIndex := 14, attributes := #[] }, { accessFlags := 0, nameIndex := 24, descriptorIndex := 25, attributes := #[] }, { accessFlags := 0, nameIndex := 75, descriptorIndex := 21, attributes := #[] }, { accessFlags := 0, nameIndex := 81, descriptorIndex := 82, attributes := #[] }, { accessFlags := 26, nameIndex := 13, descriptorIndex := 14, attributes := #[] }])
  fields := #[{ name := "value", type := (.array .byte), accessFlags := 0, slot := 0, constantValue := 0 }, { name := "coder", type := .byte, accessFlags := 0, slot := 1, constantValue := 0 }, { name := "maybeLatin1", type := .boolean, accessFlags := 0, slot := 2, constantValue := 0 }, { name := "count", type := .int, accessFlags := 0, slot := 3, constantValue := 0 }, { name := "EMPTYVALUE", type := (.array .byte), accessFlags := 26, slot := 0, constantValue := 0 }]
  methods := #[k11m0, k11m1, k11m2, k11m3, k11m4, k11m5, k11m6, k11m7, k11m8, k11m9]
  instanceTypes := #[(.array .byte), .byte, .boolean, .int]
  staticTypes := #[(.array .byte)]
  resolved := Array.replicate 609 none
  statics := none }

def pool12 : Array CpInfo := pool [(1, .methodref 2 3), (0, .class_ 4), (0, .nameAndType 5 6), (0, u "java/lang/AbstractStringBuilder"), (0, u "<init>"), (0, u "(I)V"), (11, .class_ 20), (1, u "java/lang/String"), (3, .class_ 26), (1, u "java/lang/StringBuilder"), (0, u "append"), (0, u "(Ljava/lang/String;)Ljava/lang/StringBuilder;"), (0, .methodref 2 30), (0, .nameAndType 27 31), (0, u "(Ljava/lang/String;)Ljava/lang/AbstractStringBuilder;"), (21, .methodref 2 54), (0, .nameAndType 27 55), (0, u "(I)Ljava/lang/AbstractStringBuilder;"), (81, .methodref 18 138), (0, .nameAndType 5 139), (0, u "(Ljava/lang/StringBuilder;)V"), (5, u "()V"), (10, u "()I"), (111, u "(I)Ljava/lang/StringBuilder;"), (74, .methodref 2 344), (0, .nameAndType 345 156), (0, u "length"), (3, .class_ 350), (0, u "java/lang/Appendable"), (0, .class_ 352), (0, u "java/io/Serializable"), (0, .class_ 354), (0, u "java/lang/Comparable"), (0, .class_ 356), (0, u "java/lang/CharSequence"), (0, u "serialVersionUID"), (0, u "J"), (40, u "toString"), (0, u "()Ljava/lang/String;")] 21

def k12c0 : Code := { maxStack := 2, maxLocals := 1, code := jdk_67_method_1_code, exceptionTable := #[], attributes := #[] }
def k12m0 : Method := { name := "<init>", desc := "()V", sig := { parameters := [], returnType := none }, accessFlags := 1, code := some k12c0 }
def k12c1 : Code := { maxStack := 2, maxLocals := 2, code := jdk_67_method_7_code, exceptionTable := #[], attributes := #[] }
def k12m1 : Method := { name := "append", desc := "(Ljava/lang/String;)Ljava/lang/StringBuilder;", sig := { parameters := [(.object "java/lang/String")], returnType := some (.object "java/lang/StringBuilder") }, accessFlags := 1, code := some k12c1 }
def k12c2 : Code := { maxStack := 2, maxLocals := 2, code := jdk_67_method_15_code, exceptionTable := #[], attributes := #[] }
def k12m2 : Method := { name := "append", desc := "(I)Ljava/lang/StringBuilder;", sig := { parameters := [.int], returnType := some (.object "java/lang/StringBuilder") }, accessFlags := 1, code := some k12c2 }
def k12c3 : Code := { maxStack := 3, maxLocals := 1, code := jdk_67_method_42_code, exceptionTable := #[], attributes := #[] }
def k12m3 : Method := { name := "toString", desc := "()Ljava/lang/String;", sig := { parameters := [], returnType := some (.object "java/lang/String") }, accessFlags := 1, code := some k12c3 }
def k12c4 : Code := { maxStack := 1, maxLocals := 1, code := jdk_67_method_93_code, exceptionTable := #[], attributes := #[] }
def k12m4 : Method := { name := "length", desc := "()I", sig := { parameters := [], returnType := some .int }, accessFlags := 4161, code := some k12c4 }
/-- java/lang/StringBuilder -/
def k12 : Class := { plain "java/lang/StringBuilder" (some 11) with
  accessFlags := 49
  interfaces := #[10, 2, 3, 4]
  cf := some (fileOf pool12 24 #[] #[{ accessFlags := 1, nameIndex := 5, descriptorIndex := 145, attributes := #[] }, { accessFlags := 1, nameIndex := 27, descriptorIndex := 28, attributes := #[] }, { accessFlags := 1, nameIndex := 27, descriptorIndex := 268, attributes := #[] }, { accessFlags := 1, nameIndex := 399, descriptorIndex := 400, attributes := #[] }, { accessFlags := 4161, nameIndex := 345, descriptorIndex := 156, attributes := #[] }] 49 2 #[349, 351, 353, 355] #[{ accessFlags := 24, nameIndex := 357, descriptorIndex := 358, attributes := #[] }])
  fields := #[{ name := "serialVersionUID", type := .long, accessFlags := 24, slot := 0, constantValue := 0 }]
  methods := #[k12m0, k12m1, k12m2, k12m3, k12m4]
  instanceTypes := #[(.array .byte), .byte, .boolean, .int]
  staticTypes := #[.long]
  resolved := Array.replicate 422 none
  statics := none }

def pool13 : Array CpInfo := pool [(2, .class_ 4), (1, u "java/lang/Object"), (0, u "<init>"), (0, u "()V"), (1, .class_ 10), (1, u "java/lang/System"), (0, u "allowSecurityManager"), (0, u "I"), (16, u "cons"), (0, u "Ljava/io/Console;"), (77, .class_ 110), (1, u "java/lang/System$CallersHolder"), (43, u "initialErrStream"), (0, u "Ljava/io/PrintStream;"), (19, u "security"), (0, u "Ljava/lang/SecurityManager;"), (31, .class_ 209), (0, u "java/lang/System$1"), (7, u "props"), (0, u "Ljava/util/Properties;"), (2, u "lineSeparator"), (0, u "Ljava/lang/String;"), (96, .class_ 321), (1, u "java/lang/System$LoggerFinder"), (5, .class_ 328), (0, u "java/lang/System$Logger"), (67, u "err"), (2, u "out"), (91, u "notSupportedJnuEncoding"), (15, u "in"), (17, u "initialIn"), (0, u "Ljava/io/InputStream;"), (35, u "bootLayer"), (0, u "Ljava/lang/ModuleLayer;"), (99, .class_ 664), (0, u "java/lang/System$2"), (9, u "NEVER"), (2, u "MAYBE"), (49, u "arraycopy"), (0, u "(Ljava/lang/Object;ILjava/lang/Object;II)V"), (72, .class_ 802), (0, u "java/lang/System$Logger$Level")] 31

def k13m0 : Method := { name := "<init>", desc := "()V", sig := { parameters := [], returnType := none }, accessFlags := 2, code := none }
def k13m1 : Method := { name := "arraycopy", desc := "(Ljava/lang/Object;ILjava/lang/Object;II)V", sig := { parameters := [(.object "java/lang/Object"), .int, (.object "java/lang/Object"), .int, .int], returnType := none }, accessFlags := 265, code := none }
/-- java/lang/System -/
def k13 : Class := { plain "java/lang/System" (some 0) with
  accessFlags := 49
  interfaces := #[]
  cf := some (fileOf pool13 8 #[.nestMembers #[319, 327, 801, 108, 663, 208]] #[{ accessFlags := 2, nameIndex := 5, descriptorIndex := 6, attributes := #[] }, { accessFlags := 265, nameIndex := 727, descriptorIndex := 728, attributes := #[] }] 49 2 #[] #[{ accessFlags := 25, nameIndex := 507, descriptorIndex := 526, attributes := #[] }, { accessFlags := 25, nameIndex := 399, descriptorIndex := 155, attributes := #[] }, { accessFlags := 25, nameIndex := 396, descriptorIndex := 155, attributes := #[] }, { accessFlags := 10, nameIndex := 525, descriptorIndex := 526, attributes := #[] }, { accessFlags := 26, nameIndex := 674, descriptorIndex := 12, attributes := #[] }, { accessFlags := 26, nameIndex := 677, descriptorIndex := 12, attributes := #[] }, { accessFlags := 10, nameIndex := 11, descriptorIndex := 12, attributes := #[] }, { accessFlags := 74, nameIndex := 175, descriptorIndex := 176, attributes := #[] }, { accessFlags := 10, nameIndex := 491, descriptorIndex := 222, attributes := #[] }, { accessFlags := 74, nameIndex := 29, descriptorIndex := 30, attributes := #[] }, { accessFlags := 74, nameIndex := 154, descriptorIndex := 155, attributes := #[] }, { accessFlags := 10, nameIndex := 217, descriptorIndex := 218, attributes := #[] }, { accessFlags := 10, nameIndex := 221, descriptorIndex := 222, attributes := #[] }, { accessFlags := 8, nameIndex := 562, descriptorIndex := 563, attributes := #[] }])
  fields := #[{ name := "in", type := (.object "java/io/InputStream"), accessFlags := 25, slot := 0, constantValue := 0 }, { name := "out", type := (.object "java/io/PrintStream"), accessFlags := 25, slot := 1, constantValue := 0 }, { name := "err", type := (.object "java/io/PrintStream"), accessFlags := 25, slot := 2, constantValue := 0 }, { name := "initialIn", type := (.object "java/io/InputStream"), accessFlags := 10, slot := 3, constantValue := 0 }, { name := "NEVER", type := .int, accessFlags := 26, slot := 4, constantValue := 0 }, { name := "MAYBE", type := .int, accessFlags := 26, slot := 5, constantValue := 0 }, { name := "allowSecurityManager", type := .int, accessFlags := 10, slot := 6, constantValue := 0 }, { name := "security", type := (.object "java/lang/SecurityManager"), accessFlags := 74, slot := 7, constantValue := 0 }, { name := "notSupportedJnuEncoding", type := (.object "java/lang/String"), accessFlags := 10, slot := 8, constantValue := 0 }, { name := "cons", type := (.object "java/io/Console"), accessFlags := 74, slot := 9, constantValue := 0 }, { name := "initialErrStream", type := (.object "java/io/PrintStream"), accessFlags := 74, slot := 10, constantValue := 0 }, { name := "props", type := (.object "java/util/Properties"), accessFlags := 10, slot := 11, constantValue := 0 }, { name := "lineSeparator", type := (.object "java/lang/String"), accessFlags := 10, slot := 12, constantValue := 0 }, { name := "bootLayer", type := (.object "java/lang/ModuleLayer"), accessFlags := 8, slot := 13, constantValue := 0 }]
  methods := #[k13m0, k13m1]
  instanceTypes := #[]
  staticTypes := #[(.object "java/io/InputStream"), (.object "java/io/PrintStream"), (.object "java/io/PrintStream"), (.object "java/io/InputStream"), .int, .int, .int, (.object "java/lang/SecurityManager"), (.object "java/lang/String"), (.object "java/io/Console"), (.object "java/io/PrintStream"), (.object "java/util/Properties"), (.object "java/lang/String"), (.object "java/lang/ModuleLayer")]
  resolved := Array.replicate 834 none
  statics := none }

def pool14 : Array CpInfo := pool [(2, .class_ 4), (1, u "java/lang/Object"), (0, u "<init>"), (0, u "()V"), (1, .class_ 10), (1, u "java/lang/Number"), (2, .class_ 14), (0, u "java/io/Serializable"), (0, u "serialVersionUID"), (0, u "J")] 20

def k14m0 : Method := { name := "<init>", desc := "()V", sig := { parameters := [], returnType := none }, accessFlags := 1, code := none }
/-- java/lang/Number -/
def k14 : Class := { plain "java/lang/Number" (some 0) with
  accessFlags := 1057
  interfaces := #[2]
  cf := some (fileOf pool14 8 #[] #[{ accessFlags := 1, nameIndex := 5, descriptorIndex := 6, attributes := #[] }] 1057 2 #[13] #[{ accessFlags := 26, nameIndex := 15, descriptorIndex := 16, attributes := #[] }])
  fields := #[{ name := "serialVersionUID", type := .long, accessFlags := 26, slot := 0, constantValue := 0 }]
  methods := #[k14m0]
  instanceTypes := #[]
  staticTypes := #[.long]
  resolved := Array.replicate 37 none
  statics := none }

def pool15 : Array CpInfo := pool [(1, .class_ 2), (0, u "java/lang/Integer"), (16, u "digits"), (0, u "[C"), (33, u "(I)I"), (19, u "stringSize"), (2, u "getChars"), (0, u "(II[B)I"), (4, .fieldref 1 84), (0, .nameAndType 85 86), (0, u "DigitOnes"), (0, u "[B"), (0, .fieldref 1 88), (0, .nameAndType 89 86), (0, u "DigitTens"), (99, .class_ 190), (0, u "java/lang/Integer$IntegerCache"), (3, u "I"), (8, .class_ 204), (0, u "java/lang/Number"), (2, u "value"), (94, u "TYPE"), (0, u "Ljava/lang/Class;"), (0, .class_ 305), (0, u "java/lang/Comparable"), (0, .class_ 307), (0, u "java/lang/constant/Constable"), (0, .class_ 309), (0, u "java/lang/constant/ConstantDesc"), (0, u "MIN_VALUE"), (1, u "MAX_VALUE"), (3, u "SIZE"), (1, u "BYTES"), (1, u "serialVersionUID"), (0, u "J")] 131

def k15c0 : Code := { maxStack := 4, maxLocals := 7, code := jdk_33_method_12_code, exceptionTable := #[], attributes := #[] }
def k15m0 : Method := { name := "getChars", desc := "(II[B)I", sig := { parameters := [.int, .int, (.array .byte)], returnType := some .int }, accessFlags := 8, code := some k15c0 }
def k15c1 : Code := { maxStack := 2, maxLocals := 4, code := jdk_33_method_13_code, exceptionTable := #[], attributes := #[] }
def k15m1 : Method := { name := "stringSize", desc := "(I)I", sig := { parameters := [.int], returnType := some .int }, accessFlags := 8, code := some k15c1 }
/-- java/lang/Integer -/
def k15 : Class := { plain "java/lang/Integer" (some 14) with
  accessFlags := 49
  interfaces := #[3, 5, 6]
  cf := some (fileOf pool15 1 #[.nestMembers #[189]] #[{ accessFlags := 8, nameIndex := 77, descriptorIndex := 78, attributes := #[] }, { accessFlags := 8, nameIndex := 74, descriptorIndex := 54, attributes := #[] }] 49 203 #[304, 306, 308] #[{ accessFlags := 25, nameIndex := 310, descriptorIndex := 194, attributes := #[] }, { accessFlags := 25, nameIndex := 312, descriptorIndex := 194, attributes := #[] }, { accessFlags := 25, nameIndex := 302, descriptorIndex := 303, attributes := #[] }, { accessFlags := 24, nameIndex := 19, descriptorIndex := 20, attributes := #[] }, { accessFlags := 24, nameIndex := 89, descriptorIndex := 86, attributes := #[] }, { accessFlags := 24, nameIndex := 85, descriptorIndex := 86, attributes := #[] }, { accessFlags := 18, nameIndex := 207, descriptorIndex := 194, attributes := #[] }, { accessFlags := 25, nameIndex := 316, descriptorIndex := 194, attributes := #[] }, { accessFlags := 25, nameIndex := 318, descriptorIndex := 194, attributes := #[] }, { accessFlags := 26, nameIndex := 320, descriptorIndex := 321, attributes := #[] }])
  fields := #[{ name := "MIN_VALUE", type := .int, accessFlags := 25, slot := 0, constantValue := 0 }, { name := "MAX_VALUE", type := .int, accessFlags := 25, slot := 1, constantValue := 0 }, { name := "TYPE", type := (.object "java/lang/Class"), accessFlags := 25, slot := 2, constantValue := 0 }, { name := "digits", type := (.array .char), accessFlags := 24, slot := 3, constantValue := 0 }, { name := "DigitTens", type := (.array .byte), accessFlags := 24, slot := 4, constantValue := 0 }, { name := "DigitOnes", type := (.array .byte), accessFlags := 24, slot := 5, constantValue := 0 }, { name := "value", type := .int, accessFlags := 18, slot := 0, constantValue := 0 }, { name := "SIZE", type := .int, accessFlags := 25, slot := 6, constantValue := 0 }, { name := "BYTES", type := .int, accessFlags := 25, slot := 7, constantValue := 0 }, { name := "serialVersionUID", type := .long, accessFlags := 26, slot := 8, constantValue := 0 }]
  methods := #[k15m0, k15m1]
  instanceTypes := #[.int]
  staticTypes := #[.int, .int, (.object "java/lang/Class"), (.array .char), (.array .byte), (.array .byte), .int, .int, .long]
  resolved := Array.replicate 453 none
  statics := some 1 }

def pool16 : Array CpInfo := pool [(2, .class_ 4), (1, u "java/lang/Object"), (0, u "<init>"), (0, u "()V"), (7, .class_ 16), (1, u "java/util/Arrays"), (57, .class_ 76), (1, u "java/util/Arrays$NaturalOrder"), (36, .class_ 115), (1, u "java/util/Arrays$LegacyMergeSort"), (1, u "Z"), (21, u "copyOfRange"), (10, .methodref 151 152), (0, .class_ 153), (0, .nameAndType 154 155), (0, u "java/lang/System"), (0, u "arraycopy"), (0, u "(Ljava/lang/Object;ILjava/lang/Object;II)V"), (148, .methodref 305 306), (0, .class_ 307), (0, .nameAndType 308 309), (0, u "java/lang/Math"), (0, u "min"), (0, u "(II)I"), (29, .methodref 14 340), (0, .nameAndType 341 342), (0, u "copyOfRangeByte"), (0, u "([BII)[B"), (0, .methodref 14 344), (0, .nameAndType 345 346), (0, u "checkLength"), (0, u "(II)V"), (28, .class_ 376), (0, u "java/util/Arrays$ArrayList"), (68, u "$assertionsDisabled"), (269, u "MIN_ARRAY_SORT_GRAN"), (0, u "I"), (2, u "INSERTIONSORT_THRESHOLD"), (255, .class_ 976), (0, u "java/util/Arrays$ArrayItr")] 52

def k16m0 : Method := { name := "<init>", desc := "()V", sig := { parameters := [], returnType := none }, accessFlags := 2, code := none }
def k16c1 : Code := { maxStack := 4, maxLocals := 2, code := jdk_65_method_131_code, exceptionTable := #[], attributes := #[] }
def k16m1 : Method := { name := "checkLength", desc := "(II)V", sig := { parameters := [.int, .int], returnType := none }, accessFlags := 10, code := some k16c1 }
def k16c2 : Code := { maxStack := 3, maxLocals := 3, code := jdk_65_method_132_code, exceptionTable := #[], attributes := #[] }
def k16m2 : Method := { name := "copyOfRange", desc := "([BII)[B", sig := { parameters := [(.array .byte), .int, .int], returnType := some (.array .byte) }, accessFlags := 9, code := some k16c2 }
def k16c3 : Code := { maxStack := 6, maxLocals := 5, code := jdk_65_method_133_code, exceptionTable := #[], attributes := #[] }
def k16m3 : Method := { name := "copyOfRangeByte", desc := "([BII)[B", sig := { parameters := [(.array .byte), .int, .int], returnType := some (.array .byte) }, accessFlags := 10, code := some k16c3 }
/-- java/util/Arrays -/
def k16 : Class := { plain "java/util/Arrays" (some 0) with
  accessFlags := 49
  interfaces := #[]
  cf := some (fileOf pool16 14 #[.nestMembers #[975, 375, 113, 74]] #[{ accessFlags := 2, nameIndex := 5, descriptorIndex := 6, attributes := #[] }, { accessFlags := 10, nameIndex := 345, descriptorIndex := 346, attributes := #[] }, { accessFlags := 9, nameIndex := 139, descriptorIndex := 342, attributes := #[] }, { accessFlags := 10, nameIndex := 341, descriptorIndex := 342, attributes := #[] }] 49 2 #[] #[{ accessFlags := 26, nameIndex := 715, descriptorIndex := 716, attributes := #[] }, { accessFlags := 26, nameIndex := 719, descriptorIndex := 716, attributes := #[] }, { accessFlags := 4120, nameIndex := 445, descriptorIndex := 117, attributes := #[] }])
  fields := #[{ name := "MIN_ARRAY_SORT_GRAN", type := .int, accessFlags := 26, slot := 0, constantValue := 0 }, { name := "INSERTIONSORT_THRESHOLD", type := .int, accessFlags := 26, slot := 1, constantValue := 0 }, { name := "$assertionsDisabled", type := .boolean, accessFlags := 4120, slot := 2, constantValue := 0 }]
  methods := #[k16m0, k16m1, k16m2, k16m3]
  instanceTypes := #[]
  staticTypes := #[.int, .int, .boolean]
  resolved := Array.replicate 1029 none
  statics := none }

def pool17 : Array CpInfo := pool [(1, .class_ 2), (0, u "java/lang/Math"), (1, .class_ 6), (1, u "java/lang/Object"), (0, u "<init>"), (0, u "()V"), (89, .class_ 100), (1, u "java/lang/Math$RandomNumberGeneratorHolder"), (71, u "negativeZeroFloatBits"), (0, u "J"), (2, u "negativeZeroDoubleBits"), (24, u "min"), (43, u "$assertionsDisabled"), (0, u "Z"), (88, u "(II)I"), (2, u "twoToTheDoubleScaleDown"), (0, u "D"), (4, u "twoToTheDoubleScaleUp"), (9, u "E"), (3, u "PI"), (2, u "TAU"), (2, u "DEGREES_TO_RADIANS"), (0, u "RADIANS_TO_DEGREES")] 94

def k17m0 : Method := { name := "<init>", desc := "()V", sig := { parameters := [], returnType := none }, accessFlags := 2, code := none }
def k17c1 : Code := { maxStack := 2, maxLocals := 2, code := jdk_29_method_69_code, exceptionTable := #[], attributes := #[] }
def k17m1 : Method := { name := "min", desc := "(II)I", sig := { parameters := [.int, .int], returnType := some .int }, accessFlags := 9, code := some k17c1 }
/-- java/lang/Math -/
def k17 : Class := { plain "java/lang/Math" (some 0) with
  accessFlags := 49
  interfaces := #[]
  cf := some (fileOf pool17 1 #[.nestMembers #[98]] #[{ accessFlags := 2, nameIndex := 7, descriptorIndex := 8, attributes := #[] }, { accessFlags := 9, nameIndex := 201, descriptorIndex := 335, attributes := #[] }] 49 4 #[] #[{ accessFlags := 25, nameIndex := 354, descriptorIndex := 339, attributes := #[] }, { accessFlags := 25, nameIndex := 358, descriptorIndex := 339, attributes := #[] }, { accessFlags := 25, nameIndex := 361, descriptorIndex := 339, attributes := #[] }, { accessFlags := 26, nameIndex := 364, descriptorIndex := 339, attributes := #[] }, { accessFlags := 26, nameIndex := 365, descriptorIndex := 339, attributes := #[] }, { accessFlags := 26, nameIndex := 172, descriptorIndex := 173, attributes := #[] }, { accessFlags := 26, nameIndex := 176, descriptorIndex := 173, attributes := #[] }, { accessFlags := 8, nameIndex := 344, descriptorIndex := 339, attributes := #[] }, { accessFlags := 8, nameIndex := 338, descriptorIndex := 339, attributes := #[] }, { accessFlags := 4120, nameIndex := 245, descriptorIndex := 246, attributes := #[] }])
  fields := #[{ name := "E", type := .double, accessFlags := 25, slot := 0, constantValue := 0 }, { name := "PI", type := .double, accessFlags := 25, slot := 1, constantValue := 0 }, { name := "TAU", type := .double, accessFlags := 25, slot := 2, constantValue := 0 }, { name := "DEGREES_TO_RADIANS", type := .double, accessFlags := 26, slot := 3, constantValue := 0 }, { name := "RADIANS_TO_DEGREES", type := .double, accessFlags := 26, slot := 4, constantValue := 0 }, { name := "negativeZeroFloatBits", type := .long, accessFlags := 26, slot := 5, constantValue := 0 }, { name := "negativeZeroDoubleBits", type := .long, accessFlags := 26, slot := 6, constantValue := 0 }, { name := "twoToTheDoubleScaleUp", type := .double, accessFlags := 8, slot := 7, constantValue := 0 }, { name := "twoToTheDoubleScaleDown", type := .double, accessFlags := 8, slot := 8, constantValue := 0 }, { name := "$assertionsDisabled", type := .boolean, accessFlags := 4120, slot := 9, constantValue := 0 }]
  methods := #[k17m0, k17m1]
  instanceTypes := #[]
  staticTypes := #[.double, .double, .double, .double, .double, .long, .long, .double, .double, .boolean]
  resolved := Array.replicate 460 none
  statics := none }

def pool18 : Array CpInfo := pool [(2, .class_ 4), (1, u "java/lang/Object"), (0, u "<init>"), (0, u "()V"), (17, .class_ 26), (1, u "jdk/internal/util/Preconditions"), (6, u "checkIndex"), (21, .class_ 56), (0, u "jdk/internal/util/Preconditions$4"), (57, .class_ 115), (0, u "jdk/internal/util/Preconditions$1"), (7, u "SIOOBE_FORMATTER"), (0, u "Ljava/util/function/BiFunction;"), (0, .class_ 126), (0, u "jdk/internal/util/Preconditions$2"), (3, u "AIOOBE_FORMATTER"), (0, .class_ 132), (0, u "jdk/internal/util/Preconditions$3"), (3, u "IOOBE_FORMATTER"), (41, u "(IILjava/util/function/BiFunction;)I")] 15

def k18m0 : Method := { name := "<init>", desc := "()V", sig := { parameters := [], returnType := none }, accessFlags := 1, code := none }
def k18c1 : Code := { maxStack := 3, maxLocals := 3, code := jdk_41_method_11_code, exceptionTable := #[], attributes := #[] }
def k18m1 : Method := { name := "checkIndex", desc := "(IILjava/util/function/BiFunction;)I", sig := { parameters := [.int, .int, (.object "java/util/function/BiFunction")], returnType := some .int }, accessFlags := 9, code := some k18c1 }
/-- jdk/internal/util/Preconditions -/
def k18 : Class := { plain "jdk/internal/util/Preconditions" (some 0) with
  accessFlags := 33
  interfaces := #[]
  cf := some (fileOf pool18 24 #[.nestMembers #[55, 131, 125, 114]] #[{ accessFlags := 1, nameIndex := 5, descriptorIndex := 6, attributes := #[] }, { accessFlags := 9, nameIndex := 33, descriptorIndex := 178, attributes := #[] }] 33 2 #[] #[{ accessFlags := 25, nameIndex := 123, descriptorIndex := 124, attributes := #[] }, { accessFlags := 25, nameIndex := 130, descriptorIndex := 124, attributes := #[] }, { accessFlags := 25, nameIndex := 136, descriptorIndex := 124, attributes := #[] }])
  fields := #[{ name := "SIOOBE_FORMATTER", type := (.object "java/util/function/BiFunction"), accessFlags := 25, slot := 0, constantValue := 0 }, { name := "AIOOBE_FORMATTER", type := (.object "java/util/function/BiFunction"), accessFlags := 25, slot := 1, constantValue := 0 }, { name := "IOOBE_FORMATTER", type := (.object "java/util/function/BiFunction"), accessFlags := 25, slot := 2, constantValue := 0 }]
  methods := #[k18m0, k18m1]
  instanceTypes := #[]
  staticTypes := #[(.object "java/util/function/BiFunction"), (.object "java/util/function/BiFunction"), (.object "java/util/function/BiFunction")]
  resolved := Array.replicate 194 none
  statics := some 2 }

def pool19 : Array CpInfo := pool [(6, .class_ 8), (1, u "java/lang/Object"), (0, u "<init>"), (0, u "()V"), (1, .class_ 14), (1, u "java/lang/StringUTF16"), (31, u "$assertionsDisabled"), (0, u "Z"), (13, u "HI_BYTE_SHIFT"), (0, u "I"), (2, u "LO_BYTE_SHIFT"), (49, .methodref 12 116), (0, .nameAndType 117 118), (0, u "compress"), (0, u "([CI[BII)I"), (3, u "([CII)[B"), (138, u "coderFromArrayLen"), (0, u "([BI)B"), (106, .class_ 371), (1, u "java/lang/StringUTF16$LinesSpliterator"), (58, u "MAX_LENGTH"), (196, .class_ 628), (0, u "java/lang/StringUTF16$CodePointsSpliterator"), (0, .class_ 630), (0, u "java/lang/StringUTF16$CharsSpliterator")] 4

def k19m0 : Method := { name := "<init>", desc := "()V", sig := { parameters := [], returnType := none }, accessFlags := 0, code := none }
def k19c1 : Code := { maxStack := 2, maxLocals := 2, code := jdk_52_method_15_code, exceptionTable := #[], attributes := #[] }
def k19m1 : Method := { name := "coderFromArrayLen", desc := "([BI)B", sig := { parameters := [(.array .byte), .int], returnType := some .byte }, accessFlags := 8, code := some k19c1 }
def k19c2 : Code := { maxStack := 5, maxLocals := 6, code := jdk_52_method_16_code, exceptionTable := #[], attributes := #[] }
def k19m2 : Method := { name := "compress", desc := "([CII)[B", sig := { parameters := [(.array .char), .int, .int], returnType := some (.array .byte) }, accessFlags := 9, code := some k19c2 }
def k19c3 : Code := { maxStack := 3, maxLocals := 7, code := jdk_52_method_21_code, exceptionTable := #[], attributes := #[] }
def k19m3 : Method := { name := "compress", desc := "([CI[BII)I", sig := { parameters := [(.array .char), .int, (.array .byte), .int, .int], returnType := some .int }, accessFlags := 9, code := some k19c3 }
/-- java/lang/StringUTF16 -/
def k19 : Class := { plain "java/lang/StringUTF16" (some 0) with
  accessFlags := 48
  interfaces := #[]
  cf := some (fileOf pool19 12 #[.nestMembers #[627, 629, 369]] #[{ accessFlags := 0, nameIndex := 9, descriptorIndex := 10, attributes := #[] }, { accessFlags := 8, nameIndex := 261, descriptorIndex := 262, attributes := #[] }, { accessFlags := 9, nameIndex := 117, descriptorIndex := 122, attributes := #[] }, { accessFlags := 9, nameIndex := 117, descriptorIndex := 118, attributes := #[] }] 48 6 #[] #[{ accessFlags := 26, nameIndex := 61, descriptorIndex := 62, attributes := #[] }, { accessFlags := 26, nameIndex := 65, descriptorIndex := 62, attributes := #[] }, { accessFlags := 24, nameIndex := 430, descriptorIndex := 62, attributes := #[] }, { accessFlags := 4120, nameIndex := 46, descriptorIndex := 47, attributes := #[] }])
  fields := #[{ name := "HI_BYTE_SHIFT", type := .int, accessFlags := 26, slot := 0, constantValue := 0 }, { name := "LO_BYTE_SHIFT", type := .int, accessFlags := 26, slot := 1, constantValue := 0 }, { name := "MAX_LENGTH", type := .int, accessFlags := 24, slot := 2, constantValue := 0 }, { name := "$assertionsDisabled", type := .boolean, accessFlags := 4120, slot := 3, constantValue := 0 }]
  methods := #[k19m0, k19m1, k19m2, k19m3]
  instanceTypes := #[]
  staticTypes := #[.int, .int, .int, .boolean]
  resolved := Array.replicate 635 none
  statics := none }

def pool20 : Array CpInfo := pool [(9, u "<init>"), (6, .class_ 18), (1, u "java/lang/Object"), (0, u "()V"), (1, .class_ 23), (1, u "jdk/internal/util/ArraysSupport"), (0, u "LOG2_ARRAY_LONG_INDEX_SCALE"), (0, u "I"), (2, u "U"), (0, u "Ljdk/internal/misc/Unsafe;"), (8, u "BIG_ENDIAN"), (0, u "Z"), (8, u "LOG2_BYTE_BIT_SIZE"), (4, u "LOG2_ARRAY_INT_INDEX_SCALE"), (54, u "JLA"), (0, u "Ljdk/internal/access/JavaLangAccess;"), (11, u "LOG2_ARRAY_BOOLEAN_INDEX_SCALE"), (9, u "LOG2_ARRAY_BYTE_INDEX_SCALE"), (5, u "LOG2_ARRAY_CHAR_INDEX_SCALE"), (5, u "LOG2_ARRAY_SHORT_INDEX_SCALE"), (18, u "LOG2_ARRAY_FLOAT_INDEX_SCALE"), (24, u "LOG2_ARRAY_DOUBLE_INDEX_SCALE"), (89, u "T_BOOLEAN"), (2, u "T_CHAR"), (1, u "T_FLOAT"), (1, u "T_DOUBLE"), (1, u "T_BYTE"), (1, u "T_SHORT"), (1, u "T_INT"), (1, u "T_LONG"), (1, u "SOFT_MAX_ARRAY_LENGTH")] 83

def k20m0 : Method := { name := "<init>", desc := "()V", sig := { parameters := [], returnType := none }, accessFlags := 2, code := none }
/-- jdk/internal/util/ArraysSupport -/
def k20 : Class := { plain "jdk/internal/util/ArraysSupport" (some 0) with
  accessFlags := 33
  interfaces := #[]
  cf := some (fileOf pool20 21 #[] #[{ accessFlags := 2, nameIndex := 9, descriptorIndex := 19, attributes := #[] }] 33 16 #[] #[{ accessFlags := 24, nameIndex := 28, descriptorIndex := 29, attributes := #[] }, { accessFlags := 26, nameIndex := 38, descriptorIndex := 39, attributes := #[] }, { accessFlags := 25, nameIndex := 121, descriptorIndex := 25, attributes := #[] }, { accessFlags := 25, nameIndex := 131, descriptorIndex := 25, attributes := #[] }, { accessFlags := 25, nameIndex := 137, descriptorIndex := 25, attributes := #[] }, { accessFlags := 25, nameIndex := 143, descriptorIndex := 25, attributes := #[] }, { accessFlags := 25, nameIndex := 53, descriptorIndex := 25, attributes := #[] }, { accessFlags := 25, nameIndex := 24, descriptorIndex := 25, attributes := #[] }, { accessFlags := 25, nameIndex := 162, descriptorIndex := 25, attributes := #[] }, { accessFlags := 25, nameIndex := 187, descriptorIndex := 25, attributes := #[] }, { accessFlags := 26, nameIndex := 48, descriptorIndex := 25, attributes := #[] }, { accessFlags := 25, nameIndex := 277, descriptorIndex := 25, attributes := #[] }, { accessFlags := 25, nameIndex := 280, descriptorIndex := 25, attributes := #[] }, { accessFlags := 25, nameIndex := 282, descriptorIndex := 25, attributes := #[] }, { accessFlags := 25, nameIndex := 284, descriptorIndex := 25, attributes := #[] }, { accessFlags := 25, nameIndex := 286, descriptorIndex := 25, attributes := #[] }, { accessFlags := 25, nameIndex := 288, descriptorIndex := 25, attributes := #[] }, { accessFlags := 25, nameIndex := 290, descriptorIndex := 25, attributes := #[] }, { accessFlags := 25, nameIndex := 292, descriptorIndex := 25, attributes := #[] }, { accessFlags := 26, nameIndex := 108, descriptorIndex := 109, attributes := #[] }, { accessFlags := 25, nameIndex := 294, descriptorIndex := 25, attributes := #[] }])
  fields := #[{ name := "U", type := (.object "jdk/internal/misc/Unsafe"), accessFlags := 24, slot := 0, constantValue := 0 }, { name := "BIG_ENDIAN", type := .boolean, accessFlags := 26, slot := 1, constantValue := 0 }, { name := "LOG2_ARRAY_BOOLEAN_INDEX_SCALE", type := .int, accessFlags := 25, slot := 2, constantValue := 0 }, { name := "LOG2_ARRAY_BYTE_INDEX_SCALE", type := .int, accessFlags := 25, slot := 3, constantValue := 0 }, { name := "LOG2_ARRAY_CHAR_INDEX_SCALE", type := .int, accessFlags := 25, slot := 4, constantValue := 0 }, { name := "LOG2_ARRAY_SHORT_INDEX_SCALE", type := .int, accessFlags := 25, slot := 5, constantValue := 0 }, { name := "LOG2_ARRAY_INT_INDEX_SCALE", type := .int, accessFlags := 25, slot := 6, constantValue := 0 }, { name := "LOG2_ARRAY_LONG_INDEX_SCALE", type := .int, accessFlags := 25, slot := 7, constantValue := 0 }, { name := "LOG2_ARRAY_FLOAT_INDEX_SCALE", type := .int, accessFlags := 25, slot := 8, constantValue := 0 }, { name := "LOG2_ARRAY_DOUBLE_INDEX_SCALE", type := .int, accessFlags := 25, slot := 9, constantValue := 0 }, { name := "LOG2_BYTE_BIT_SIZE", type := .int, accessFlags := 26, slot := 10, constantValue := 0 }, { name := "T_BOOLEAN", type := .int, accessFlags := 25, slot := 11, constantValue := 0 }, { name := "T_CHAR", type := .int, accessFlags := 25, slot := 12, constantValue := 0 }, { name := "T_FLOAT", type := .int, accessFlags := 25, slot := 13, constantValue := 0 }, { name := "T_DOUBLE", type := .int, accessFlags := 25, slot := 14, constantValue := 0 }, { name := "T_BYTE", type := .int, accessFlags := 25, slot := 15, constantValue := 0 }, { name := "T_SHORT", type := .int, accessFlags := 25, slot := 16, constantValue := 0 }, { name := "T_INT", type := .int, accessFlags := 25, slot := 17, constantValue := 0 }, { name := "T_LONG", type := .int, accessFlags := 25, slot := 18, constantValue := 0 }, { name := "JLA", type := (.object "jdk/internal/access/JavaLangAccess"), accessFlags := 26, slot := 19, constantValue := 0 }, { name := "SOFT_MAX_ARRAY_LENGTH", type := .int, accessFlags := 25, slot := 20, constantValue := 0 }]
  methods := #[k20m0]
  instanceTypes := #[]
  staticTypes := #[(.object "jdk/internal/misc/Unsafe"), .boolean, .int, .int, .int, .int, .int, .int, .int, .int, .int, .int, .int, .int, .int, .int, .int, .int, .int, (.object "jdk/internal/access/JavaLangAccess"), .int]
  resolved := Array.replicate 378 none
  statics := none }

def pool21 : Array CpInfo := pool [(1, u "java/lang/Cloneable"), (0, .class_ 1), (0, u "java/lang/Object"), (0, .class_ 3)] 3

/-- java/lang/Cloneable -/
def k21 : Class := { plain "java/lang/Cloneable" (some 0) with
  accessFlags := 1537
  interfaces := #[]
  cf := some (fileOf pool21 2 #[] #[] 1537 4 #[] #[])
  fields := #[]
  methods := #[]
  instanceTypes := #[]
  staticTypes := #[]
  resolved := Array.replicate 8 none
  statics := none }

/-- the primitive byte -/
def k22 : Class := { plain "byte" none with kind := .primitive 'B', accessFlags := 0x411 }
/-- [B -/
def k23 : Class := { plain "[B" (some 0) with kind := .array 22 .byte, interfaces := #[21, 2], accessFlags := 1041 }

/-- the primitive char -/
def k24 : Class := { plain "char" none with kind := .primitive 'C', accessFlags := 0x411 }
/-- [C -/
def k25 : Class := { plain "[C" (some 0) with kind := .array 24 .char, interfaces := #[21, 2], accessFlags := 1041 }

/-- the primitive int -/
def k26 : Class := { plain "int" none with kind := .primitive 'I', accessFlags := 0x411 }
/-- [I -/
def k27 : Class := { plain "[I" (some 0) with kind := .array 26 .int, interfaces := #[21, 2], accessFlags := 1041 }

def heap : Heap := #[{ cls := 7, slots := #[.long 0, .int 1, .null, .int 0, .null, .int 0, .int 0], vm := .statics 7 },
  { cls := 15, slots := #[.int 0, .int 0, .null, .null, .ref 4, .ref 3, .int 0, .int 0, .long 0], vm := .statics 15 },
  { cls := 18, slots := #[.null, .null, .null], vm := .statics 18 },
  { cls := 23, slots := #[.int 48, .int 49, .int 50, .int 51, .int 52, .int 53, .int 54, .int 55, .int 56, .int 57, .int 48, .int 49, .int 50, .int 51, .int 52, .int 53, .int 54, .int 55, .int 56, .int 57, .int 48, .int 49, .int 50, .int 51, .int 52, .int 53, .int 54, .int 55, .int 56, .int 57, .int 48, .int 49, .int 50, .int 51, .int 52, .int 53, .int 54, .int 55, .int 56, .int 57, .int 48, .int 49, .int 50, .int 51, .int 52, .int 53, .int 54, .int 55, .int 56, .int 57, .int 48, .int 49, .int 50, .int 51, .int 52, .int 53, .int 54, .int 55, .int 56, .int 57, .int 48, .int 49, .int 50, .int 51, .int 52, .int 53, .int 54, .int 55, .int 56, .int 57, .int 48, .int 49, .int 50, .int 51, .int 52, .int 53, .int 54, .int 55, .int 56, .int 57, .int 48, .int 49, .int 50, .int 51, .int 52, .int 53, .int 54, .int 55, .int 56, .int 57, .int 48, .int 49, .int 50, .int 51, .int 52, .int 53, .int 54, .int 55, .int 56, .int 57], vm := .none },
  { cls := 23, slots := #[.int 48, .int 48, .int 48, .int 48, .int 48, .int 48, .int 48, .int 48, .int 48, .int 48, .int 49, .int 49, .int 49, .int 49, .int 49, .int 49, .int 49, .int 49, .int 49, .int 49, .int 50, .int 50, .int 50, .int 50, .int 50, .int 50, .int 50, .int 50, .int 50, .int 50, .int 51, .int 51, .int 51, .int 51, .int 51, .int 51, .int 51, .int 51, .int 51, .int 51, .int 52, .int 52, .int 52, .int 52, .int 52, .int 52, .int 52, .int 52, .int 52, .int 52, .int 53, .int 53, .int 53, .int 53, .int 53, .int 53, .int 53, .int 53, .int 53, .int 53, .int 54, .int 54, .int 54, .int 54, .int 54, .int 54, .int 54, .int 54, .int 54, .int 54, .int 55, .int 55, .int 55, .int 55, .int 55, .int 55, .int 55, .int 55, .int 55, .int 55, .int 56, .int 56, .int 56, .int 56, .int 56, .int 56, .int 56, .int 56, .int 56, .int 56, .int 57, .int 57, .int 57, .int 57, .int 57, .int 57, .int 57, .int 57, .int 57, .int 57], vm := .none }]
def classes : Array Class := #[k0, k1, k2, k3, k4, k5, k6, k7, k8, k9, k10, k11, k12, k13, k14, k15, k16, k17, k18, k19, k20, k21, k22, k23, k24, k25, k26, k27]
def interned : List (Array UInt16 × Addr) := []
def slotsUsed : Nat := 219
def theMethod : MethodId := ⟨1, 1⟩
def args0 : Array Value := #[.int 5, .int 80]
def aboutOver (below : List Frame) : State where
  vm := { classes := classes, interned := interned.toArray }
  heap := heap
  slotsUsed := slotsUsed
  threads := #[{ frames := .invoking theMethod args0 :: below }]
def below0 : List Frame := [.native { method := ⟨0, 0⟩, args := #[] }]
def about1 : State := aboutOver below0
def p0 : Program := .bare "" "" ""
def e0 : Env := launch0.env 0 0 0
theorem w_frames : about1.frames = Frame.invoking theMethod args0 :: below0 := rfl
set_option maxRecDepth 65536 in
theorem w_args : argsFit about1.vm theMethod args0 = true := by decide +kernel
set_option maxRecDepth 65536 in
theorem w_heap : heapFits about1 = true := by decide +kernel
set_option maxRecDepth 65536 in
theorem w_runnable : about1.curStatus? = some .runnable := by decide +kernel
set_option maxRecDepth 65536 in
theorem w_alone : about1.alone = true := by decide +kernel
set_option maxRecDepth 65536 in
theorem w_named : about1.methodNamed? x = some theMethod := by decide +kernel
set_option maxRecDepth 65536 in
theorem w_hears : about1.hears theMethod below0 = true := by decide +kernel
set_option maxRecDepth 65536 in
theorem w_ripe : about1.ripe theMethod args0 below0 = true := by decide +kernel
theorem w_running : about1.status = .running := rfl
set_option maxRecDepth 65536 in
theorem w_room : about1.hasRoom e0.platform room_1 = true :=
  launch0.hasRoom_least _ room_1 (by decide +kernel) (by decide +kernel) (by decide +kernel) (by decide +kernel) (by decide +kernel) (by decide +kernel)
theorem allAtoms_all (ts : List Jvm.Cond) (a : Array Jvm.Value) (st : Jvm.State) : (allAtoms ts).before a st = ts.all (fun c => c.before a st) := by
  induction ts with
  | nil => rfl
  | cons c t ih =>
    show (Jvm.Cond.and c (allAtoms t)).before a st = _
    rw [Jvm.Cond.before_and, ih, List.all_cons]
def words1 : List Jvm.Cond := Jvm.Cond.code x code maxLocals ret :: tables_1
/-- a 'code' word, met by the world's own term for the bytes: nothing is compared byte by byte -/
theorem code_word {y : MethodName} {bytes : ByteArray} {mx : Nat} {rt : Option FieldType} {a : Array Value} {s : State} {m : MethodId} {meth : Method} {c : Code} (h1 : s.methodNamed? y = some m) (h2 : s.vm.method? m = some meth) (h3 : meth.code = some c) (h4 : c.code = bytes)
    (h5 : (c.maxLocals == mx && c.exceptionTable.isEmpty && decide (c.maxStack ≤ mostOperands) && decide (meth.sig.returnType = rt) && !meth.locks && decide (parseMethodDescriptor y.desc = some meth.sig)) = true) : (Jvm.Cond.code y bytes mx rt).before a s = true := by
  simp only [Bool.and_eq_true, beq_iff_eq, Bool.not_eq_true', decide_eq_true_eq] at h5
  obtain ⟨⟨⟨⟨⟨g1, g2⟩, g3⟩, g4⟩, g5⟩, g6⟩ := h5
  simp [Cond.before, Cond.holds, Cond.value, h1, h2, h3, h4, g1, g2, g3, g4, g5, g6]
def isCode : Jvm.Cond → Bool
  | .code _ _ _ _ => true
  | _ => false
theorem all_split {L : List Jvm.Cond} {P : Jvm.Cond → Bool} (h1 : L.all (fun c => isCode c || P c) = true) (h2 : ∀ c ∈ L.filter isCode, P c = true) : L.all P = true := by
  refine List.all_eq_true.mpr fun c hc => ?_
  have h := List.all_eq_true.mp h1 c hc
  rcases Bool.eq_false_or_eq_true (isCode c) with hi | hi
  · exact h2 c (List.mem_filter.mpr ⟨hc, hi⟩)
  · simpa [hi] using h
set_option maxRecDepth 65536 in
theorem w_c0 : (Jvm.Cond.code x code maxLocals ret).before args0 about1 = true := code_word (m := ⟨1, 1⟩) (meth := k1m1) (c := k1c1) (by decide +kernel) rfl rfl rfl (by decide +kernel)
set_option maxRecDepth 65536 in
theorem w_c1 : (Jvm.Cond.code ({ cls := "com/example/latchkey/latchkey/ListenAddressToStringPinLaw", name := "make", desc := "(ICCC)Ljava/lang/String;" } : Jvm.MethodName) method_4_code (4 : Nat) (Option.some (Jvm.ClassFile.FieldType.object "java/lang/String"))).before args0 about1 = true := code_word (m := ⟨1, 3⟩) (meth := k1m3) (c := k1c3) (by decide +kernel) rfl rfl rfl (by decide +kernel)
set_option maxRecDepth 65536 in
theorem w_c2 : (Jvm.Cond.code ({ cls := "java/lang/String", name := "<init>", desc := "([C)V" } : Jvm.MethodName) jdk_42_method_3_code (2 : Nat) (Option.none : Option Jvm.ClassFile.FieldType)).before args0 about1 = true := code_word (m := ⟨7, 1⟩) (meth := k7m1) (c := k7c1) (by decide +kernel) rfl rfl rfl (by decide +kernel)
set_option maxRecDepth 65536 in
theorem w_c3 : (Jvm.Cond.code ({ cls := "java/lang/String", name := "<init>", desc := "([CIILjava/lang/Void;)V" } : Jvm.MethodName) jdk_42_method_149_code (6 : Nat) (Option.none : Option Jvm.ClassFile.FieldType)).before args0 about1 = true := code_word (m := ⟨7, 9⟩) (meth := k7m9) (c := k7c9) (by decide +kernel) rfl rfl rfl (by decide +kernel)
set_option maxRecDepth 65536 in
theorem w_c4 : (Jvm.Cond.code ({ cls := "java/lang/Object", name := "<init>", desc := "()V" } : Jvm.MethodName) object_method_1_code (1 : Nat) (Option.none : Option Jvm.ClassFile.FieldType)).before args0 about1 = true := code_word (m := ⟨0, 0⟩) (meth := k0m0) (c := k0c0) (by decide +kernel) rfl rfl rfl (by decide +kernel)
set_option maxRecDepth 65536 in
theorem w_c5 : (Jvm.Cond.code ({ cls := "com/example/latchkey/latchkey/ListenAddress", name := "<init>", desc := "(Ljava/lang/String;I)V" } : Jvm.MethodName) prog_8_method_1_code (3 : Nat) (Option.none : Option Jvm.ClassFile.FieldType)).before args0 about1 = true := code_word (m := ⟨8, 0⟩) (meth := k8m0) (c := k8c0) (by decide +kernel) rfl rfl rfl (by decide +kernel)
set_option maxRecDepth 65536 in
theorem w_c6 : (Jvm.Cond.code ({ cls := "com/example/latchkey/latchkey/ListenAddress", name := "toString", desc := "()Ljava/lang/String;" } : Jvm.MethodName) prog_8_method_7_code (2 : Nat) (Option.some (Jvm.ClassFile.FieldType.object "java/lang/String"))).before args0 about1 = true := code_word (m := ⟨8, 1⟩) (meth := k8m1) (c := k8c1) (by decide +kernel) rfl rfl rfl (by decide +kernel)
set_option maxRecDepth 65536 in
theorem w_c7 : (Jvm.Cond.code ({ cls := "java/lang/String", name := "contains", desc := "(Ljava/lang/CharSequence;)Z" } : Jvm.MethodName) jdk_42_method_97_code (2 : Nat) (Option.some Jvm.ClassFile.FieldType.boolean)).before args0 about1 = true := code_word (m := ⟨7, 6⟩) (meth := k7m6) (c := k7c6) (by decide +kernel) rfl rfl rfl (by decide +kernel)
set_option maxRecDepth 65536 in
theorem w_c8 : (Jvm.Cond.code ({ cls := "java/lang/String", name := "toString", desc := "()Ljava/lang/String;" } : Jvm.MethodName) jdk_42_method_126_code (1 : Nat) (Option.some (Jvm.ClassFile.FieldType.object "java/lang/String"))).before args0 about1 = true := code_word (m := ⟨7, 7⟩) (meth := k7m7) (c := k7c7) (by decide +kernel) rfl rfl rfl (by decide +kernel)
set_option maxRecDepth 65536 in
theorem w_c9 : (Jvm.Cond.code ({ cls := "java/lang/String", name := "indexOf", desc := "(Ljava/lang/String;)I" } : Jvm.MethodName) jdk_42_method_84_code (3 : Nat) (Option.some Jvm.ClassFile.FieldType.int)).before args0 about1 = true := code_word (m := ⟨7, 5⟩) (meth := k7m5) (c := k7c5) (by decide +kernel) rfl rfl rfl (by decide +kernel)
set_option maxRecDepth 65536 in
theorem w_c10 : (Jvm.Cond.code ({ cls := "java/lang/String", name := "coder", desc := "()B" } : Jvm.MethodName) jdk_42_method_152_code (1 : Nat) (Option.some Jvm.ClassFile.FieldType.byte)).before args0 about1 = true := code_word (m := ⟨7, 11⟩) (meth := k7m11) (c := k7c11) (by decide +kernel) rfl rfl rfl (by decide +kernel)
set_option maxRecDepth 65536 in
theorem w_c11 : (Jvm.Cond.code ({ cls := "java/lang/String", name := "isLatin1", desc := "()Z" } : Jvm.MethodName) jdk_42_method_154_code (1 : Nat) (Option.some Jvm.ClassFile.FieldType.boolean)).before args0 about1 = true := code_word (m := ⟨7, 12⟩) (meth := k7m12) (c := k7c12) (by decide +kernel) rfl rfl rfl (by decide +kernel)
set_option maxRecDepth 65536 in
theorem w_c12 : (Jvm.Cond.code ({ cls := "java/lang/StringLatin1", name := "indexOf", desc := "([B[B)I" } : Jvm.MethodName) jdk_43_method_24_code (2 : Nat) (Option.some Jvm.ClassFile.FieldType.int)).before args0 about1 = true := code_word (m := ⟨9, 2⟩) (meth := k9m2) (c := k9c2) (by decide +kernel) rfl rfl rfl (by decide +kernel)
set_option maxRecDepth 65536 in
theorem w_c13 : (Jvm.Cond.code ({ cls := "java/lang/StringBuilder", name := "<init>", desc := "()V" } : Jvm.MethodName) jdk_67_method_1_code (1 : Nat) (Option.none : Option Jvm.ClassFile.FieldType)).before args0 about1 = true := code_word (m := ⟨12, 0⟩) (meth := k12m0) (c := k12c0) (by decide +kernel) rfl rfl rfl (by decide +kernel)
set_option maxRecDepth 65536 in
theorem w_c14 : (Jvm.Cond.code ({ cls := "java/lang/AbstractStringBuilder", name := "<init>", desc := "(I)V" } : Jvm.MethodName) jdk_68_method_2_code (2 : Nat) (Option.none : Option Jvm.ClassFile.FieldType)).before args0 about1 = true := code_word (m := ⟨11, 1⟩) (meth := k11m1) (c := k11c1) (by decide +kernel) rfl rfl rfl (by decide +kernel)
set_option maxRecDepth 65536 in
theorem w_c15 : (Jvm.Cond.code ({ cls := "java/lang/StringBuilder", name := "append", desc := "(Ljava/lang/String;)Ljava/lang/StringBuilder;" } : Jvm.MethodName) jdk_67_method_7_code (2 : Nat) (Option.some (Jvm.ClassFile.FieldType.object "java/lang/StringBuilder"))).before args0 about1 = true := code_word (m := ⟨12, 1⟩) (meth := k12m1) (c := k12c1) (by decide +kernel) rfl rfl rfl (by decide +kernel)
set_option maxRecDepth 65536 in
theorem w_c16 : (Jvm.Cond.code ({ cls := "java/lang/AbstractStringBuilder", name := "append", desc := "(Ljava/lang/String;)Ljava/lang/AbstractStringBuilder;" } : Jvm.MethodName) jdk_68_method_22_code (3 : Nat) (Option.some (Jvm.ClassFile.FieldType.object "java/lang/AbstractStringBuilder"))).before args0 about1 = true := code_word (m := ⟨11, 4⟩) (meth := k11m4) (c := k11c4) (by decide +kernel) rfl rfl rfl (by decide +kernel)
set_option maxRecDepth 65536 in
theorem w_c17 : (Jvm.Cond.code ({ cls := "java/lang/String", name := "length", desc := "()I" } : Jvm.MethodName) jdk_42_method_54_code (1 : Nat) (Option.some Jvm.ClassFile.FieldType.int)).before args0 about1 = true := code_word (m := ⟨7, 3⟩) (meth := k7m3) (c := k7c3) (by decide +kernel) rfl rfl rfl (by decide +kernel)
set_option maxRecDepth 65536 in
theorem w_c18 : (Jvm.Cond.code ({ cls := "java/lang/AbstractStringBuilder", name := "ensureCapacityInternal", desc := "(I)V" } : Jvm.MethodName) jdk_68_method_9_code (3 : Nat) (Option.none : Option Jvm.ClassFile.FieldType)).before args0 about1 = true := code_word (m := ⟨11, 3⟩) (meth := k11m3) (c := k11c3) (by decide +kernel) rfl rfl rfl (by decide +kernel)
set_option maxRecDepth 65536 in
theorem w_c19 : (Jvm.Cond.code ({ cls := "java/lang/AbstractStringBuilder", name := "putStringAt", desc := "(ILjava/lang/String;)V" } : Jvm.MethodName) jdk_68_method_73_code (3 : Nat) (Option.none : Option Jvm.ClassFile.FieldType)).before args0 about1 = true := code_word (m := ⟨11, 9⟩) (meth := k11m9) (c := k11c9) (by decide +kernel) rfl rfl rfl (by decide +kernel)
set_option maxRecDepth 65536 in
theorem w_c20 : (Jvm.Cond.code ({ cls := "java/lang/AbstractStringBuilder", name := "inflateIfNeededFor", desc := "(Ljava/lang/String;)V" } : Jvm.MethodName) jdk_68_method_71_code (2 : Nat) (Option.none : Option Jvm.ClassFile.FieldType)).before args0 about1 = true := code_word (m := ⟨11, 8⟩) (meth := k11m8) (c := k11c8) (by decide +kernel) rfl rfl rfl (by decide +kernel)
set_option maxRecDepth 65536 in
theorem w_c21 : (Jvm.Cond.code ({ cls := "java/lang/String", name := "getBytes", desc := "([BIB)V" } : Jvm.MethodName) jdk_42_method_147_code (4 : Nat) (Option.none : Option Jvm.ClassFile.FieldType)).before args0 about1 = true := code_word (m := ⟨7, 8⟩) (meth := k7m8) (c := k7c8) (by decide +kernel) rfl rfl rfl (by decide +kernel)
set_option maxRecDepth 65536 in
theorem w_c22 : (Jvm.Cond.code ({ cls := "java/lang/StringBuilder", name := "append", desc := "(I)Ljava/lang/StringBuilder;" } : Jvm.MethodName) jdk_67_method_15_code (2 : Nat) (Option.some (Jvm.ClassFile.FieldType.object "java/lang/StringBuilder"))).before args0 about1 = true := code_word (m := ⟨12, 2⟩) (meth := k12m2) (c := k12c2) (by decide +kernel) rfl rfl rfl (by decide +kernel)
set_option maxRecDepth 65536 in
theorem w_c23 : (Jvm.Cond.code ({ cls := "java/lang/AbstractStringBuilder", name := "append", desc := "(I)Ljava/lang/AbstractStringBuilder;" } : Jvm.MethodName) jdk_68_method_32_code (4 : Nat) (Option.some (Jvm.ClassFile.FieldType.object "java/lang/AbstractStringBuilder"))).before args0 about1 = true := code_word (m := ⟨11, 5⟩) (meth := k11m5) (c := k11c5) (by decide +kernel) rfl rfl rfl (by decide +kernel)
set_option maxRecDepth 65536 in
theorem w_c24 : (Jvm.Cond.code ({ cls := "java/lang/Integer", name := "stringSize", desc := "(I)I" } : Jvm.MethodName) jdk_33_method_13_code (4 : Nat) (Option.some Jvm.ClassFile.FieldType.int)).before args0 about1 = true := code_word (m := ⟨15, 1⟩) (meth := k15m1) (c := k15c1) (by decide +kernel) rfl rfl rfl (by decide +kernel)
set_option maxRecDepth 65536 in
theorem w_c25 : (Jvm.Cond.code ({ cls := "java/lang/AbstractStringBuilder", name := "isLatin1", desc := "()Z" } : Jvm.MethodName) jdk_68_method_68_code (1 : Nat) (Option.some Jvm.ClassFile.FieldType.boolean)).before args0 about1 = true := code_word (m := ⟨11, 7⟩) (meth := k11m7) (c := k11c7) (by decide +kernel) rfl rfl rfl (by decide +kernel)
set_option maxRecDepth 65536 in
theorem w_c26 : (Jvm.Cond.code ({ cls := "java/lang/Integer", name := "getChars", desc := "(II[B)I" } : Jvm.MethodName) jdk_33_method_12_code (7 : Nat) (Option.some Jvm.ClassFile.FieldType.int)).before args0 about1 = true := code_word (m := ⟨15, 0⟩) (meth := k15m0) (c := k15c0) (by decide +kernel) rfl rfl rfl (by decide +kernel)
set_option maxRecDepth 65536 in
theorem w_c27 : (Jvm.Cond.code ({ cls := "java/lang/StringBuilder", name := "toString", desc := "()Ljava/lang/String;" } : Jvm.MethodName) jdk_67_method_42_code (1 : Nat) (Option.some (Jvm.ClassFile.FieldType.object "java/lang/String"))).before args0 about1 = true := code_word (m := ⟨12, 3⟩) (meth := k12m3) (c := k12c3) (by decide +kernel) rfl rfl rfl (by decide +kernel)
set_option maxRecDepth 65536 in
theorem w_c28 : (Jvm.Cond.code ({ cls := "java/lang/String", name := "<init>", desc := "(Ljava/lang/StringBuilder;)V" } : Jvm.MethodName) jdk_42_method_53_code (2 : Nat) (Option.none : Option Jvm.ClassFile.FieldType)).before args0 about1 = true := code_word (m := ⟨7, 2⟩) (meth := k7m2) (c := k7c2) (by decide +kernel) rfl rfl rfl (by decide +kernel)
set_option maxRecDepth 65536 in
theorem w_c29 : (Jvm.Cond.code ({ cls := "java/lang/String", name := "<init>", desc := "(Ljava/lang/AbstractStringBuilder;Ljava/lang/Void;)V" } : Jvm.MethodName) jdk_42_method_150_code (5 : Nat) (Option.none : Option Jvm.ClassFile.FieldType)).before args0 about1 = true := code_word (m := ⟨7, 10⟩) (meth := k7m10) (c := k7c10) (by decide +kernel) rfl rfl rfl (by decide +kernel)
set_option maxRecDepth 65536 in
theorem w_c30 : (Jvm.Cond.code ({ cls := "java/lang/AbstractStringBuilder", name := "getValue", desc := "()[B" } : Jvm.MethodName) jdk_68_method_64_code (1 : Nat) (Option.some (Jvm.ClassFile.FieldType.array Jvm.ClassFile.FieldType.byte))).before args0 about1 = true := code_word (m := ⟨11, 6⟩) (meth := k11m6) (c := k11c6) (by decide +kernel) rfl rfl rfl (by decide +kernel)
set_option maxRecDepth 65536 in
theorem w_c31 : (Jvm.Cond.code ({ cls := "java/lang/StringBuilder", name := "length", desc := "()I" } : Jvm.MethodName) jdk_67_method_93_code (1 : Nat) (Option.some Jvm.ClassFile.FieldType.int)).before args0 about1 = true := code_word (m := ⟨12, 4⟩) (meth := k12m4) (c := k12c4) (by decide +kernel) rfl rfl rfl (by decide +kernel)
set_option maxRecDepth 65536 in
theorem w_c32 : (Jvm.Cond.code ({ cls := "java/lang/AbstractStringBuilder", name := "length", desc := "()I" } : Jvm.MethodName) jdk_68_method_6_code (1 : Nat) (Option.some Jvm.ClassFile.FieldType.int)).before args0 about1 = true := code_word (m := ⟨11, 2⟩) (meth := k11m2) (c := k11c2) (by decide +kernel) rfl rfl rfl (by decide +kernel)
set_option maxRecDepth 65536 in
theorem w_c33 : (Jvm.Cond.code ({ cls := "java/util/Arrays", name := "copyOfRange", desc := "([BII)[B" } : Jvm.MethodName) jdk_65_method_132_code (3 : Nat) (Option.some (Jvm.ClassFile.FieldType.array Jvm.ClassFile.FieldType.byte))).before args0 about1 = true := code_word (m := ⟨16, 2⟩) (meth := k16m2) (c := k16c2) (by decide +kernel) rfl rfl rfl (by decide +kernel)
set_option maxRecDepth 65536 in
theorem w_c34 : (Jvm.Cond.code ({ cls := "java/util/Arrays", name := "copyOfRangeByte", desc := "([BII)[B" } : Jvm.MethodName) jdk_65_method_133_code (5 : Nat) (Option.some (Jvm.ClassFile.FieldType.array Jvm.ClassFile.FieldType.byte))).before args0 about1 = true := code_word (m := ⟨16, 3⟩) (meth := k16m3) (c := k16c3) (by decide +kernel) rfl rfl rfl (by decide +kernel)
set_option maxRecDepth 65536 in
theorem w_c35 : (Jvm.Cond.code ({ cls := "java/util/Arrays", name := "checkLength", desc := "(II)V" } : Jvm.MethodName) jdk_65_method_131_code (2 : Nat) (Option.none : Option Jvm.ClassFile.FieldType)).before args0 about1 = true := code_word (m := ⟨16, 1⟩) (meth := k16m1) (c := k16c1) (by decide +kernel) rfl rfl rfl (by decide +kernel)
set_option maxRecDepth 65536 in
theorem w_c36 : (Jvm.Cond.code ({ cls := "java/lang/Math", name := "min", desc := "(II)I" } : Jvm.MethodName) jdk_29_method_69_code (2 : Nat) (Option.some Jvm.ClassFile.FieldType.int)).before args0 about1 = true := code_word (m := ⟨17, 1⟩) (meth := k17m1) (c := k17c1) (by decide +kernel) rfl rfl rfl (by decide +kernel)
set_option maxRecDepth 65536 in
theorem w_c37 : (Jvm.Cond.code ({ cls := "com/example/latchkey/latchkey/ListenAddressToStringPinLaw", name := "at", desc := "(Ljava/lang/String;[CII)Z" } : Jvm.MethodName) method_3_code (4 : Nat) (Option.some Jvm.ClassFile.FieldType.boolean)).before args0 about1 = true := code_word (m := ⟨1, 2⟩) (meth := k1m2) (c := k1c2) (by decide +kernel) rfl rfl rfl (by decide +kernel)
set_option maxRecDepth 65536 in
theorem w_c38 : (Jvm.Cond.code ({ cls := "java/lang/String", name := "charAt", desc := "(I)C" } : Jvm.MethodName) jdk_42_method_56_code (2 : Nat) (Option.some Jvm.ClassFile.FieldType.char)).before args0 about1 = true := code_word (m := ⟨7, 4⟩) (meth := k7m4) (c := k7c4) (by decide +kernel) rfl rfl rfl (by decide +kernel)
set_option maxRecDepth 65536 in
theorem w_c39 : (Jvm.Cond.code ({ cls := "java/lang/StringLatin1", name := "charAt", desc := "([BI)C" } : Jvm.MethodName) jdk_43_method_2_code (2 : Nat) (Option.some Jvm.ClassFile.FieldType.char)).before args0 about1 = true := code_word (m := ⟨9, 1⟩) (meth := k9m1) (c := k9c1) (by decide +kernel) rfl rfl rfl (by decide +kernel)
set_option maxRecDepth 65536 in
theorem w_c40 : (Jvm.Cond.code ({ cls := "java/lang/String", name := "checkIndex", desc := "(II)V" } : Jvm.MethodName) jdk_42_method_155_code (2 : Nat) (Option.none : Option Jvm.ClassFile.FieldType)).before args0 about1 = true := code_word (m := ⟨7, 13⟩) (meth := k7m13) (c := k7c13) (by decide +kernel) rfl rfl rfl (by decide +kernel)
set_option maxRecDepth 65536 in
theorem w_c41 : (Jvm.Cond.code ({ cls := "jdk/internal/util/Preconditions", name := "checkIndex", desc := "(IILjava/util/function/BiFunction;)I" } : Jvm.MethodName) jdk_41_method_11_code (3 : Nat) (Option.some Jvm.ClassFile.FieldType.int)).before args0 about1 = true := code_word (m := ⟨18, 1⟩) (meth := k18m1) (c := k18c1) (by decide +kernel) rfl rfl rfl (by decide +kernel)
set_option maxRecDepth 65536 in
theorem w_c42 : (Jvm.Cond.code ({ cls := "java/lang/StringUTF16", name := "compress", desc := "([CII)[B" } : Jvm.MethodName) jdk_52_method_16_code (6 : Nat) (Option.some (Jvm.ClassFile.FieldType.array Jvm.ClassFile.FieldType.byte))).before args0 about1 = true := code_word (m := ⟨19, 2⟩) (meth := k19m2) (c := k19c2) (by decide +kernel) rfl rfl rfl (by decide +kernel)
set_option maxRecDepth 65536 in
theorem w_c43 : (Jvm.Cond.code ({ cls := "java/lang/StringUTF16", name := "compress", desc := "([CI[BII)I" } : Jvm.MethodName) jdk_52_method_21_code (7 : Nat) (Option.some Jvm.ClassFile.FieldType.int)).before args0 about1 = true := code_word (m := ⟨19, 3⟩) (meth := k19m3) (c := k19c3) (by decide +kernel) rfl rfl rfl (by decide +kernel)
set_option maxRecDepth 65536 in
theorem w_c44 : (Jvm.Cond.code ({ cls := "java/lang/StringUTF16", name := "coderFromArrayLen", desc := "([BI)B" } : Jvm.MethodName) jdk_52_method_15_code (2 : Nat) (Option.some Jvm.ClassFile.FieldType.byte)).before args0 about1 = true := code_word (m := ⟨19, 1⟩) (meth := k19m1) (c := k19c1) (by decide +kernel) rfl rfl rfl (by decide +kernel)
set_option maxRecDepth 65536 in
theorem w_c45 : (Jvm.Cond.code ({ cls := "java/lang/StringLatin1", name := "indexOf", desc := "([BI[BII)I" } : Jvm.MethodName) jdk_43_method_25_code (11 : Nat) (Option.some Jvm.ClassFile.FieldType.int)).before args0 about1 = true := code_word (m := ⟨9, 3⟩) (meth := k9m3) (c := k9c3) (by decide +kernel) rfl rfl rfl (by decide +kernel)
def codes1 : List Jvm.Cond := [Jvm.Cond.code x code maxLocals ret, Jvm.Cond.code ({ cls := "com/example/latchkey/latchkey/ListenAddressToStringPinLaw", name := "make", desc := "(ICCC)Ljava/lang/String;" } : Jvm.MethodName) method_4_code (4 : Nat) (Option.some (Jvm.ClassFile.FieldType.object "java/lang/String")), Jvm.Cond.code ({ cls := "java/lang/String", name := "<init>", desc := "([C)V" } : Jvm.MethodName) jdk_42_method_3_code (2 : Nat) (Option.none : Option Jvm.ClassFile.FieldType), Jvm.Cond.code ({ cls := "java/lang/String", name := "<init>", desc := "([CIILjava/lang/Void;)V" } : Jvm.MethodName) jdk_42_method_149_code (6 : Nat) (Option.none : Option Jvm.ClassFile.FieldType), Jvm.Cond.code ({ cls := "java/lang/Object", name := "<init>", desc := "()V" } : Jvm.MethodName) object_method_1_code (1 : Nat) (Option.none : Option Jvm.ClassFile.FieldType), Jvm.Cond.code ({ cls := "com/example/latchkey/latchkey/ListenAddress", name := "<init>", desc := "(Ljava/lang/String;I)V" } : Jvm.MethodName) prog_8_method_1_code (3 : Nat) (Option.none : Option Jvm.ClassFile.FieldType), Jvm.Cond.code ({ cls := "com/example/latchkey/latchkey/ListenAddress", name := "toString", desc := "()Ljava/lang/String;" } : Jvm.MethodName) prog_8_method_7_code (2 : Nat) (Option.some (Jvm.ClassFile.FieldType.object "java/lang/String")), Jvm.Cond.code ({ cls := "java/lang/String", name := "contains", desc := "(Ljava/lang/CharSequence;)Z" } : Jvm.MethodName) jdk_42_method_97_code (2 : Nat) (Option.some Jvm.ClassFile.FieldType.boolean), Jvm.Cond.code ({ cls := "java/lang/String", name := "toString", desc := "()Ljava/lang/String;" } : Jvm.MethodName) jdk_42_method_126_code (1 : Nat) (Option.some (Jvm.ClassFile.FieldType.object "java/lang/String")), Jvm.Cond.code ({ cls := "java/lang/String", name := "indexOf", desc := "(Ljava/lang/String;)I" } : Jvm.MethodName) jdk_42_method_84_code (3 : Nat) (Option.some Jvm.ClassFile.FieldType.int), Jvm.Cond.code ({ cls := "java/lang/String", name := "coder", desc := "()B" } : Jvm.MethodName) jdk_42_method_152_code (1 : Nat) (Option.some Jvm.ClassFile.FieldType.byte), Jvm.Cond.code ({ cls := "java/lang/String", name := "isLatin1", desc := "()Z" } : Jvm.MethodName) jdk_42_method_154_code (1 : Nat) (Option.some Jvm.ClassFile.FieldType.boolean), Jvm.Cond.code ({ cls := "java/lang/StringLatin1", name := "indexOf", desc := "([B[B)I" } : Jvm.MethodName) jdk_43_method_24_code (2 : Nat) (Option.some Jvm.ClassFile.FieldType.int), Jvm.Cond.code ({ cls := "java/lang/StringBuilder", name := "<init>", desc := "()V" } : Jvm.MethodName) jdk_67_method_1_code (1 : Nat) (Option.none : Option Jvm.ClassFile.FieldType), Jvm.Cond.code ({ cls := "java/lang/AbstractStringBuilder", name := "<init>", desc := "(I)V" } : Jvm.MethodName) jdk_68_method_2_code (2 : Nat) (Option.none : Option Jvm.ClassFile.FieldType), Jvm.Cond.code ({ cls := "java/lang/StringBuilder", name := "append", desc := "(Ljava/lang/String;)Ljava/lang/StringBuilder;" } : Jvm.MethodName) jdk_67_method_7_code (2 : Nat) (Option.some (Jvm.ClassFile.FieldType.object "java/lang/StringBuilder")), Jvm.Cond.code ({ cls := "java/lang/AbstractStringBuilder", name := "append", desc := "(Ljava/lang/String;)Ljava/lang/AbstractStringBuilder;" } : Jvm.MethodName) jdk_68_method_22_code (3 : Nat) (Option.some (Jvm.ClassFile.FieldType.object "java/lang/AbstractStringBuilder")), Jvm.Cond.code ({ cls := "java/lang/String", name := "length", desc := "()I" } : Jvm.MethodName) jdk_42_method_54_code (1 : Nat) (Option.some Jvm.ClassFile.FieldType.int), Jvm.Cond.code ({ cls := "java/lang/AbstractStringBuilder", name := "ensureCapacityInternal", desc := "(I)V" } : Jvm.MethodName) jdk_68_method_9_code (3 : Nat) (Option.none : Option Jvm.ClassFile.FieldType), Jvm.Cond.code ({ cls := "java/lang/AbstractStringBuilder", name := "putStringAt", desc := "(ILjava/lang/String;)V" } : Jvm.MethodName) jdk_68_method_73_code (3 : Nat) (Option.none : Option Jvm.ClassFile.FieldType), Jvm.Cond.code ({ cls := "java/lang/AbstractStringBuilder", name := "inflateIfNeededFor", desc := "(Ljava/lang/String;)V" } : Jvm.MethodName) jdk_68_method_71_code (2 : Nat) (Option.none : Option Jvm.ClassFile.FieldType), Jvm.Cond.code ({ cls := "java/lang/String", name := "getBytes", desc := "([BIB)V" } : Jvm.MethodName) jdk_42_method_147_code (4 : Nat) (Option.none : Option Jvm.ClassFile.FieldType), Jvm.Cond.code ({ cls := "java/lang/StringBuilder", name := "append", desc := "(I)Ljava/lang/StringBuilder;" } : Jvm.MethodName) jdk_67_method_15_code (2 : Nat) (Option.some (Jvm.ClassFile.FieldType.object "java/lang/StringBuilder")), Jvm.Cond.code ({ cls := "java/lang/AbstractStringBuilder", name := "append", desc := "(I)Ljava/lang/AbstractStringBuilder;" } : Jvm.MethodName) jdk_68_method_32_code (4 : Nat) (Option.some (Jvm.ClassFile.FieldType.object "java/lang/AbstractStringBuilder")), Jvm.Cond.code ({ cls := "java/lang/Integer", name := "stringSize", desc := "(I)I" } : Jvm.MethodName) jdk_33_method_13_code (4 : Nat) (Option.some Jvm.ClassFile.FieldType.int), Jvm.Cond.code ({ cls := "java/lang/AbstractStringBuilder", name := "isLatin1", desc := "()Z" } : Jvm.MethodName) jdk_68_method_68_code (1 : Nat) (Option.some Jvm.ClassFile.FieldType.boolean), Jvm.Cond.code ({ cls := "java/lang/Integer", name := "getChars", desc := "(II[B)I" } : Jvm.MethodName) jdk_33_method_12_code (7 : Nat) (Option.some Jvm.ClassFile.FieldType.int), Jvm.Cond.code ({ cls := "java/lang/StringBuilder", name := "toString", desc := "()Ljava/lang/String;" } : Jvm.MethodName) jdk_67_method_42_code (1 : Nat) (Option.some (Jvm.ClassFile.FieldType.object "java/lang/String")), Jvm.Cond.code ({ cls := "java/lang/String", name := "<init>", desc := "(Ljava/lang/StringBuilder;)V" } : Jvm.MethodName) jdk_42_method_53_code (2 : Nat) (Option.none : Option Jvm.ClassFile.FieldType), Jvm.Cond.code ({ cls := "java/lang/String", name := "<init>", desc := "(Ljava/lang/AbstractStringBuilder;Ljava/lang/Void;)V" } : Jvm.MethodName) jdk_42_method_150_code (5 : Nat) (Option.none : Option Jvm.ClassFile.FieldType), Jvm.Cond.code ({ cls := "java/lang/AbstractStringBuilder", name := "getValue", desc := "()[B" } : Jvm.MethodName) jdk_68_method_64_code (1 : Nat) (Option.some (Jvm.ClassFile.FieldType.array Jvm.ClassFile.FieldType.byte)), Jvm.Cond.code ({ cls := "java/lang/StringBuilder", name := "length", desc := "()I" } : Jvm.MethodName) jdk_67_method_93_code (1 : Nat) (Option.some Jvm.ClassFile.FieldType.int), Jvm.Cond.code ({ cls := "java/lang/AbstractStringBuilder", name := "length", desc := "()I" } : Jvm.MethodName) jdk_68_method_6_code (1 : Nat) (Option.some Jvm.ClassFile.FieldType.int), Jvm.Cond.code ({ cls := "java/util/Arrays", name := "copyOfRange", desc := "([BII)[B" } : Jvm.MethodName) jdk_65_method_132_code (3 : Nat) (Option.some (Jvm.ClassFile.FieldType.array Jvm.ClassFile.FieldType.byte)), Jvm.Cond.code ({ cls := "java/util/Arrays", name := "copyOfRangeByte", desc := "([BII)[B" } : Jvm.MethodName) jdk_65_method_133_code (5 : Nat) (Option.some (Jvm.ClassFile.FieldType.array Jvm.ClassFile.FieldType.byte)), Jvm.Cond.code ({ cls := "java/util/Arrays", name := "checkLength", desc := "(II)V" } : Jvm.MethodName) jdk_65_method_131_code (2 : Nat) (Option.none : Option Jvm.ClassFile.FieldType), Jvm.Cond.code ({ cls := "java/lang/Math", name := "min", desc := "(II)I" } : Jvm.MethodName) jdk_29_method_69_code (2 : Nat) (Option.some Jvm.ClassFile.FieldType.int), Jvm.Cond.code ({ cls := "com/example/latchkey/latchkey/ListenAddressToStringPinLaw", name := "at", desc := "(Ljava/lang/String;[CII)Z" } : Jvm.MethodName) method_3_code (4 : Nat) (Option.some Jvm.ClassFile.FieldType.boolean), Jvm.Cond.code ({ cls := "java/lang/String", name := "charAt", desc := "(I)C" } : Jvm.MethodName) jdk_42_method_56_code (2 : Nat) (Option.some Jvm.ClassFile.FieldType.char), Jvm.Cond.code ({ cls := "java/lang/StringLatin1", name := "charAt", desc := "([BI)C" } : Jvm.MethodName) jdk_43_method_2_code (2 : Nat) (Option.some Jvm.ClassFile.FieldType.char), Jvm.Cond.code ({ cls := "java/lang/String", name := "checkIndex", desc := "(II)V" } : Jvm.MethodName) jdk_42_method_155_code (2 : Nat) (Option.none : Option Jvm.ClassFile.FieldType), Jvm.Cond.code ({ cls := "jdk/internal/util/Preconditions", name := "checkIndex", desc := "(IILjava/util/function/BiFunction;)I" } : Jvm.MethodName) jdk_41_method_11_code (3 : Nat) (Option.some Jvm.ClassFile.FieldType.int), Jvm.Cond.code ({ cls := "java/lang/StringUTF16", name := "compress", desc := "([CII)[B" } : Jvm.MethodName) jdk_52_method_16_code (6 : Nat) (Option.some (Jvm.ClassFile.FieldType.array Jvm.ClassFile.FieldType.byte)), Jvm.Cond.code ({ cls := "java/lang/StringUTF16", name := "compress", desc := "([CI[BII)I" } : Jvm.MethodName) jdk_52_method_21_code (7 : Nat) (Option.some Jvm.ClassFile.FieldType.int), Jvm.Cond.code ({ cls := "java/lang/StringUTF16", name := "coderFromArrayLen", desc := "([BI)B" } : Jvm.MethodName) jdk_52_method_15_code (2 : Nat) (Option.some Jvm.ClassFile.FieldType.byte), Jvm.Cond.code ({ cls := "java/lang/StringLatin1", name := "indexOf", desc := "([BI[BII)I" } : Jvm.MethodName) jdk_43_method_25_code (11 : Nat) (Option.some Jvm.ClassFile.FieldType.int)]
set_option maxRecDepth 65536 in
theorem codes_eq : words1.filter isCode = codes1 := rfl
theorem w_codes : ∀ c ∈ words1.filter isCode, c.before args0 about1 = true := by
  rw [codes_eq]
  intro c hc
  simp only [codes1, List.mem_cons, List.not_mem_nil, or_false] at hc
  rcases hc with rfl | rfl | rfl | rfl | rfl | rfl | rfl | rfl | rfl | rfl | rfl | rfl | rfl | rfl | rfl | rfl | rfl | rfl | rfl | rfl | rfl | rfl | rfl | rfl | rfl | rfl | rfl | rfl | rfl | rfl | rfl | rfl | rfl | rfl | rfl | rfl | rfl | rfl | rfl | rfl | rfl | rfl | rfl | rfl | rfl | rfl
  · exact w_c0
  · exact w_c1
  · exact w_c2
  · exact w_c3
  · exact w_c4
  · exact w_c5
  · exact w_c6
  · exact w_c7
  · exact w_c8
  · exact w_c9
  · exact w_c10
  · exact w_c11
  · exact w_c12
  · exact w_c13
  · exact w_c14
  · exact w_c15
  · exact w_c16
  · exact w_c17
  · exact w_c18
  · exact w_c19
  · exact w_c20
  · exact w_c21
  · exact w_c22
  · exact w_c23
  · exact w_c24
  · exact w_c25
  · exact w_c26
  · exact w_c27
  · exact w_c28
  · exact w_c29
  · exact w_c30
  · exact w_c31
  · exact w_c32
  · exact w_c33
  · exact w_c34
  · exact w_c35
  · exact w_c36
  · exact w_c37
  · exact w_c38
  · exact w_c39
  · exact w_c40
  · exact w_c41
  · exact w_c42
  · exact w_c43
  · exact w_c44
  · exact w_c45
set_option maxRecDepth 65536 in
theorem w_t1 : (words1.take 24).all (fun c => isCode c || c.before args0 about1) = true := by decide +kernel
set_option maxRecDepth 65536 in
theorem w_t2 : ((words1.drop 24).take 24).all (fun c => isCode c || c.before args0 about1) = true := by decide +kernel
set_option maxRecDepth 65536 in
theorem w_t3 : (((words1.drop 24).drop 24).take 24).all (fun c => isCode c || c.before args0 about1) = true := by decide +kernel
set_option maxRecDepth 65536 in
theorem w_t4 : ((((words1.drop 24).drop 24).drop 24).take 24).all (fun c => isCode c || c.before args0 about1) = true := by decide +kernel
set_option maxRecDepth 65536 in
theorem w_t5 : (((((words1.drop 24).drop 24).drop 24).drop 24).take 24).all (fun c => isCode c || c.before args0 about1) = true := by decide +kernel
set_option maxRecDepth 65536 in
theorem w_t6 : ((((((words1.drop 24).drop 24).drop 24).drop 24).drop 24).take 24).all (fun c => isCode c || c.before args0 about1) = true := by decide +kernel
set_option maxRecDepth 65536 in
theorem w_t7 : (((((((words1.drop 24).drop 24).drop 24).drop 24).drop 24).drop 24).take 24).all (fun c => isCode c || c.before args0 about1) = true := by decide +kernel
set_option maxRecDepth 65536 in
theorem w_t8 : ((((((((words1.drop 24).drop 24).drop 24).drop 24).drop 24).drop 24).drop 24).take 24).all (fun c => isCode c || c.before args0 about1) = true := by decide +kernel
set_option maxRecDepth 65536 in
theorem w_t9 : (((((((((words1.drop 24).drop 24).drop 24).drop 24).drop 24).drop 24).drop 24).drop 24).take 24).all (fun c => isCode c || c.before args0 about1) = true := by decide +kernel
set_option maxRecDepth 65536 in
theorem w_t10 : (((((((((words1.drop 24).drop 24).drop 24).drop 24).drop 24).drop 24).drop 24).drop 24).drop 24).all (fun c => isCode c || c.before args0 about1) = true := by decide +kernel
theorem w_tables : (allAtoms (Jvm.Cond.code x code maxLocals ret :: tables_1)).before args0 about1 = true := by
  rw [allAtoms_all]
  show words1.all (fun c => c.before args0 about1) = true
  refine all_split ?_ w_codes
  rw [← List.take_append_drop 24 words1, List.all_append, w_t1, ← List.take_append_drop 24 (words1.drop 24), List.all_append, w_t2, ← List.take_append_drop 24 ((words1.drop 24).drop 24), List.all_append, w_t3, ← List.take_append_drop 24 (((words1.drop 24).drop 24).drop 24), List.all_append, w_t4, ← List.take_append_drop 24 ((((words1.drop 24).drop 24).drop 24).drop 24), List.all_append, w_t5, ← List.take_append_drop 24 (((((words1.drop 24).drop 24).drop 24).drop 24).drop 24), List.all_append, w_t6, ← List.take_append_drop 24 ((((((words1.drop 24).drop 24).drop 24).drop 24).drop 24).drop 24), List.all_append, w_t7, ← List.take_append_drop 24 (((((((words1.drop 24).drop 24).drop 24).drop 24).drop 24).drop 24).drop 24), List.all_append, w_t8, ← List.take_append_drop 24 ((((((((words1.drop 24).drop 24).drop 24).drop 24).drop 24).drop 24).drop 24).drop 24), List.all_append, w_t9, w_t10]
  rfl
set_option maxRecDepth 65536 in
theorem w_rest : rest_1_c.before args0 about1 = true := by decide +kernel
set_option maxRecDepth 65536 in
theorem w_case : (Jvm.Cond.and given_1 narrow_1).before args0 about1 = true := by decide +kernel
set_option maxRecDepth 65536 in
theorem w_consts : constsHeld consts_1 about1 := Jvm.Lit.constsHeldB_iff.mp (by decide +kernel)
theorem w_applies : (headSpec (Jvm.Cond.code x code maxLocals ret :: tables_1) room_1).applies x e0.platform about1 = true :=
  (Spec.applies_iff w_frames).mpr ⟨w_running, w_runnable, w_alone, w_named, w_hears, w_ripe, w_room, w_tables⟩
theorem atStart : AtStart classFile x code maxLocals ret World_1 tables_1 room_1 Calls_1 rest_1 Pre_1 launch0 p0 e0 about1 theMethod args0 below0 :=
  ⟨lists_1, trivial, launch0.admits_env _ _ _, launch0.least_env, fairChoices_fair.cas, fairChoices_fair.clock, w_frames, w_args, w_heap, w_applies, ⟨w_consts, trivial⟩, w_rest, w_case⟩
end start1
theorem witness_1 : WitnessClaimed_1 := ⟨start1.p0, start1.e0, start1.about1, start1.theMethod, start1.args0, start1.below0, start1.atStart⟩
end Jvm.Pilot.@@N@@
